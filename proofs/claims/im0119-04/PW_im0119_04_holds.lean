import PyProof.Rows.All
import Wide.All
import OpenK.AllK
import Wide.FinOn
import PySem.Challenge.RW_im0119_04
set_option Elab.async false
set_option genSizeOf false
set_option genInjectivity false
set_option bootstrap.genMatcherCode false
set_option compiler.extract_closed false
set_option autoImplicit false
set_option maxRecDepth 10000
set_option linter.unusedVariables false
set_option linter.defProp false
set_option linter.unusedSimpArgs false
namespace Mine.Internal
theorem ntr {a b c:Nat}:a≤b→b≤c→a≤c:=Nat.le_trans
set_option genCtorIdx false in
inductive AE where
 | n (k:Nat)
 | v (i:Nat)
 | a (x y:AE)
 | s (x y:AE)
 | m (k:Nat) (x:AE)
 | r (k:Nat) (x:AE)
 | g (x:AE)
 | c (x:AE)
noncomputable def atN:List Nat→Nat→Nat
 | [],_=>0
 | x::_,0=>x
 | _::l,i+1=>atN l i
noncomputable def atI:List Int→Nat→Int
 | [],_=>0
 | x::_,0=>x
 | _::l,i+1=>atI l i
noncomputable def evN (N:List Nat):AE→Nat
 | .n k=>k
 | .v i=>atN N i
 | .a x y=>evN N x+evN N y
 | .s _ _=>0
 | .m k x=>k * evN N x
 | .r k x=>evN N x * k
 | .g _=>0
 | .c _=>0
noncomputable def evI (N:List Nat) (I:List Int):AE→Int
 | .n k=>(k:Int)
 | .v i=>atI I i
 | .a x y=>evI N I x+evI N I y
 | .s x y=>evI N I x-evI N I y
 | .m k x=>(k:Int) * evI N I x
 | .r k x=>evI N I x * (k:Int)
 | .g x=>- evI N I x
 | .c x=>(evN N x:Nat)
noncomputable def uni:Nat→List Int
 | 0=>[1]
 | k+1=>0::uni k
noncomputable def z2q:List Int→List Int→List Int
 | [],l=>l
 | x::l,k=>match k with
  | []=>x::l
  | y::k=>(x+y)::z2q l k
noncomputable def z3y (k:Int) (l:List Int):List Int:=l.map (k * ·)
noncomputable abbrev LF:=Int×List Int×List Int
noncomputable def zr7 (x y:LF):LF:=(x.1+y.1,z2q x.2.1 y.2.1,z2q x.2.2 y.2.2)
noncomputable def zsi (k:Int) (x:LF):LF:=(k * x.1,z3y k x.2.1,z3y k x.2.2)
noncomputable def lnN:AE→LF
 | .n k=>(k,[],[])
 | .v i=>(0,uni i,[])
 | .a x y=>zr7 (lnN x) (lnN y)
 | .s _ _=>(0,[],[])
 | .m k x=>zsi k (lnN x)
 | .r k x=>zsi k (lnN x)
 | .g _=>(0,[],[])
 | .c _=>(0,[],[])
noncomputable def lnI:AE→LF
 | .n k=>(k,[],[])
 | .v i=>(0,[],uni i)
 | .a x y=>zr7 (lnI x) (lnI y)
 | .s x y=>zr7 (lnI x) (zsi (-1) (lnI y))
 | .m k x=>zsi k (lnI x)
 | .r k x=>zsi k (lnI x)
 | .g x=>zsi (-1) (lnI x)
 | .c x=>lnN x
noncomputable def dot:List Int→List Int→Int
 | [],_=>0
 | c::l,r=>match r with
  | []=>0
  | x::r=>c * x+dot l r
theorem zs9: ∀(l k r:List Int),dot (z2q l k) r=dot l r+dot k r:=fun l=>by
 induction l with
 | nil=>exact fun k r=>(Int.zero_add _).symm
 | cons x l ih=>
  intro k r
  cases k with
  | nil=>exact(Int.add_zero _).symm
  | cons y k=>cases r with
   | nil=>rfl
   | cons z r=>
    show(x+y) * z+dot (z2q l k) r=(x * z+dot l r)+(y * z+dot k r)
    rw[ih,Int.add_mul,Int.add_assoc,Int.add_assoc,Int.add_left_comm (y * z)]
theorem zvq (c:Int): ∀(l r:List Int),dot (z3y c l) r=c * dot l r:=fun l=>by
 induction l with
 | nil=>exact fun r=>(Int.mul_zero _).symm
 | cons x l ih=>
  intro r
  cases r with
  | nil=>exact(Int.mul_zero _).symm
  | cons z r=>
   show c * x * z+dot (z3y c l) r=c * (x * z+dot l r)
   rw[ih,Int.mul_add,Int.mul_assoc]
theorem zvi: ∀(k:Nat) (r:List Int),dot (uni k) r=atI r k:=fun k=>by
 induction k with
 | zero=>
  intro r
  cases r with
  | nil=>rfl
  | cons z r=>show 1 * z+0=z;rw[Int.one_mul,Int.add_zero]
 | succ k ih=>
  intro r
  cases r with
  | nil=>rfl
  | cons z r=>show 0 * z+dot (uni k) r=_;rw[Int.zero_mul,Int.zero_add,ih];rfl
theorem z4a: ∀(N:List Nat) (k:Nat),atI (N.map Int.ofNat) k=(atN N k:Int):=fun N=>by
 induction N with
 | nil=>exact fun _=>rfl
 | cons x N ih=>exact fun k=>by cases k with
  | zero=>rfl
  | succ k=>exact ih k
section
variable (N:List Nat) (I:List Int)
noncomputable def evL (l:LF):Int:=l.1+(dot l.2.1 (N.map Int.ofNat)+dot l.2.2 I)
theorem zhl (x y:LF):evL N I (zr7 x y)=evL N I x+evL N I y:=by
 show x.1+y.1+(dot (z2q _ _) _+dot (z2q _ _) _)=(x.1+(dot _ _+dot _ _))+(y.1+(dot _ _+dot _ _))
 rw[zs9,zs9]
 generalize dot _ _=p,dot _ _=q,dot _ _=r,dot _ _=s
 ac_rfl
theorem zgi (k:Int) (x:LF):evL N I (zsi k x)=k * evL N I x:=by
 show k * x.1+(dot (z3y _ _) _+dot (z3y _ _) _)=k * (x.1+(dot _ _+dot _ _))
 rw[zvq,zvq,Int.mul_add,Int.mul_add]
theorem z5n: ∀e:AE,evL N I (lnN e)=(evN N e:Int):=fun e=>by
 induction e with
 | n k=>exact Int.add_zero _
 | v i=>exact(Int.zero_add _).trans ((Int.add_zero _).trans ((zvi i _).trans (z4a N i)))
 | a x y h1 h2=>exact(zhl N I _ _).trans (by rw[h1,h2];rfl)
 | m k x h=>exact(zgi N I _ _).trans (by rw[h];rfl)
 | r k x h=>exact(zgi N I _ _).trans (by rw[h,Int.mul_comm];rfl)
 | _=>rfl
theorem z7e: ∀e:AE,evL N I (lnI e)=evI N I e:=fun e=>by
 induction e with
 | n k=>exact Int.add_zero _
 | v i=>exact(Int.zero_add _).trans ((Int.zero_add _).trans (zvi i _))
 | a x y h1 h2=>exact(zhl N I _ _).trans (by rw[h1,h2];rfl)
 | s x y h1 h2=>exact(zhl N I _ _).trans (by rw[zgi,h1,h2,Int.neg_one_mul];rfl)
 | m k x h=>exact(zgi N I _ _).trans (by rw[h];rfl)
 | r k x h=>exact(zgi N I _ _).trans (by rw[h,Int.mul_comm];rfl)
 | g x h=>exact(zgi N I _ _).trans (by rw[h,Int.neg_one_mul];rfl)
 | c x=>exact z5n N I x
end
noncomputable def aPI (d:Nat) (x y:Int):Prop:=match d with
 | 0=>x≤y
 | 1=>x<y
 | 2=>x=y
 | 3=>y=x
 | 4=> ¬y<x
 | _=> ¬y≤x
noncomputable def aPN (d:Nat) (x y:Nat):Prop:=match d with
 | 0=>x≤y
 | 1=>x<y
 | 2=>x=y
 | 3=>y=x
 | 4=> ¬y<x
 | _=> ¬y≤x
noncomputable def aS (d:Nat):Int:=match d with
 | 1=>-1
 | 5=>-1
 | _=>0
theorem sl0 (x y:Int):y+-1 * x+0=y-x:=by rw[Int.add_zero,Int.neg_one_mul,←Int.sub_eq_add_neg]
theorem sl1 (x y:Int):y+-1 * x+-1=y-(x+1):=by rw[Int.neg_one_mul,Int.sub_eq_add_neg,Int.neg_add,Int.add_assoc]
theorem zht {x y:Int} (h:x≤y):0≤y+-1 * x+0:=by rw[sl0];exact Int.sub_nonneg_of_le h
theorem zqx {x y:Int} (h:x<y):0≤y+-1 * x+-1:=by rw[sl1];exact Int.sub_nonneg_of_le h
theorem zy9 {x y:Int} (h:0≤y+-1 * x+0):x≤y:=by rw[sl0] at h;exact Int.le_of_sub_nonneg h
theorem zzi {x y:Int} (h:0≤y+-1 * x+-1):x<y:=by rw[sl1] at h;exact Int.le_of_sub_nonneg h
noncomputable def kOk (d:Nat):Bool:=Nat.blt d 6
noncomputable def gOk (d:Nat):Bool:=Nat.ble d 1
theorem z44 {P:Nat→Prop} (h0:P 0) (h1:P 1) (h2:P 2) (h3:P 3) (h4:P 4) (h5:P 5): ∀d,kOk d=true→P d
 | 0,_=>h0
 | 1,_=>h1
 | 2,_=>h2
 | 3,_=>h3
 | 4,_=>h4
 | 5,_=>h5
theorem sI {x y:Int}: ∀d,kOk d=true→aPI d x y→0≤y+-1 * x+aS d:=
 z44 zht zqx (fun h=>zht (Int.le_of_eq h)) (fun h=>zht (Int.le_of_eq h.symm)) (fun h=>zht (Int.not_lt.mp h)) fun h=>zqx (Int.not_le.mp h)
theorem sN {x y:Nat}: ∀d,kOk d=true→aPN d x y→0≤(y:Int)+-1 * (x:Int)+aS d:=
 z44 (fun h=>zht (Int.ofNat_le.mpr h)) (fun h=>zqx (Int.ofNat_lt.mpr h)) (fun h=>zht (Int.ofNat_le.mpr (Nat.le_of_eq h))) (fun h=>zht (Int.ofNat_le.mpr (Nat.le_of_eq h.symm))) (fun h=>zht (Int.ofNat_le.mpr (Nat.not_lt.mp h))) fun h=>zqx (Int.ofNat_lt.mpr (Nat.not_le.mp h))
theorem gI {x y:Int}: ∀d,gOk d=true→0≤y+-1 * x+aS d→aPI d x y
 | 0,_=>zy9
 | 1,_=>zzi
theorem gN {x y:Nat}: ∀d,gOk d=true→0≤(y:Int)+-1 * (x:Int)+aS d→aPN d x y
 | 0,_=>fun h=>Int.ofNat_le.mp (zy9 h)
 | 1,_=>fun h=>Int.ofNat_lt.mp (zzi h)
noncomputable def rdN:Nat→Nat→Nat×Nat
 | 0,c=>(0,c)
 | f+1,c=>match Nat.blt (c%16) 8 with
  | true=>(c%16,c/16)
  | false=>(c%16-8+8 * (rdN f (c/16)).1,(rdN f (c/16)).2)
noncomputable def rdE:Nat→Nat→AE×Nat
 | 0,c=>(.n 0,c)
 | f+1,c=>match c%8 with
  | 0=>(.n (rdN f (c/8)).1,(rdN f (c/8)).2)
  | 1=>(.v (rdN f (c/8)).1,(rdN f (c/8)).2)
  | 2=>(.a (rdE f (c/8)).1 (rdE f (rdE f (c/8)).2).1,(rdE f (rdE f (c/8)).2).2)
  | 3=>(.s (rdE f (c/8)).1 (rdE f (rdE f (c/8)).2).1,(rdE f (rdE f (c/8)).2).2)
  | 4=>(.m (rdN f (c/8)).1 (rdE f (rdN f (c/8)).2).1,(rdE f (rdN f (c/8)).2).2)
  | 5=>(.r (rdN f (c/8)).1 (rdE f (rdN f (c/8)).2).1,(rdE f (rdN f (c/8)).2).2)
  | 6=>(.g (rdE f (c/8)).1,(rdE f (c/8)).2)
  | _=>(.c (rdE f (c/8)).1,(rdE f (c/8)).2)
structure AT where
 d:Nat
 t:Nat
 w:Nat
 x:AE
 y:AE
noncomputable def rdA (f:Nat):Nat→Nat→List AT
 | 0,_=>[]
 | n+1,c=>match Nat.beq c 0 with
  | true=>[]
  | false=>⟨c%8,c/8%4,(rdN f (c/32)).1,(rdE f (rdN f (c/32)).2).1,(rdE f (rdE f (rdN f (c/32)).2).2).1⟩::rdA f n (rdE f (rdE f (rdN f (c/32)).2).2).2
noncomputable def arP (N:List Nat) (I:List Int):List AT→Prop
 | []=>False
 | t::l=>match t.t with
  | 0=>aPI t.d (evI N I t.x) (evI N I t.y)→arP N I l
  | 1=>aPN t.d (evN N t.x) (evN N t.y)→arP N I l
  | 2=>aPI t.d (evI N I t.x) (evI N I t.y)
  | _=>aPN t.d (evN N t.x) (evN N t.y)
noncomputable def iN:Int→Bool
 | .ofNat _=>false
 | .negSucc _=>true
noncomputable def iP (c:Int):Bool:=!iN (-c)
noncomputable def iZ (c:Int):Bool:=iP c&&!iN c
noncomputable def ngL (l:LF):Bool:=iN l.1&&(l.2.1.all iP&&l.2.2.all iZ)
noncomputable def slk (d:Nat) (x y:LF):LF:=zr7 (zr7 y (zsi (-1) x)) (aS d,[],[])
noncomputable def z7g (w:Nat) (l:LF):LF:=zsi (-(w:Int)) (zr7 l (1,[],[]))
noncomputable def ckA:List AT→LF→Bool
 | [],a=>ngL a
 | t::l,a=>match t.t with
  | 0=>kOk t.d&&ckA l (zr7 a (zsi t.w (slk t.d (lnI t.x) (lnI t.y))))
  | 1=>kOk t.d&&ckA l (zr7 a (zsi t.w (slk t.d (lnN t.x) (lnN t.y))))
  | 2=>gOk t.d&&ngL (zr7 a (z7g t.w (slk t.d (lnI t.x) (lnI t.y))))
  | _=>gOk t.d&&ngL (zr7 a (z7g t.w (slk t.d (lnN t.x) (lnN t.y))))
section
variable (N:List Nat) (I:List Int)
theorem zud {c:Int}:iN c=true↔c<0:=by
 cases c with
 | ofNat k=>exact⟨(fun h=>nomatch h),fun h=>absurd h (Int.not_lt.mpr (Int.natCast_nonneg k))⟩
 | negSucc k=>exact⟨fun _=>Int.negSucc_lt_zero k,fun _=>rfl⟩
theorem z39 {c:Int} (h:iP c=true):c≤0:=Int.not_lt.mp fun q=>by
 have:iN (-c)=true:=zud.mpr (Int.neg_neg_of_pos q)
 unfold iP at h
 rw[this] at h;cases h
theorem iZ_z {c:Int} (h:iZ c=true):c=0:=by
 obtain⟨h1,h2⟩:=(Bool.and_eq_true _ _).mp h
 refine Int.le_antisymm (z39 h1) (Int.not_lt.mp fun q=>?_)
 rw[zud.mpr q] at h2;cases h2
theorem z87: ∀(l:List Int) (N:List Nat),l.all iP=true→dot l (N.map Int.ofNat)≤0:=fun l=>by
 induction l with
 | nil=>exact fun _ _=>Int.le_refl 0
 | cons c l ih=>
  intro N h
  obtain⟨h1,h2⟩:=(Bool.and_eq_true _ _).mp h
  cases N with
  | nil=>exact Int.le_refl 0
  | cons x N=>exact Int.add_le_add (Int.mul_nonpos_of_nonpos_of_nonneg (z39 h1) (Int.natCast_nonneg x)) (ih N h2)
theorem tl_z: ∀(l I:List Int),l.all iZ=true→dot l I=0:=fun l=>by
 induction l with
 | nil=>exact fun _ _=>rfl
 | cons c l ih=>
  intro I h
  obtain⟨h1,h2⟩:=(Bool.and_eq_true _ _).mp h
  cases I with
  | nil=>rfl
  | cons x I=>
   show c * x+dot l I=0
   rw[iZ_z h1,Int.zero_mul,Int.zero_add,ih I h2]
theorem z4o {l:LF} (h:ngL l=true):evL N I l<0:=by
 obtain⟨h1,h⟩:=(Bool.and_eq_true _ _).mp h
 obtain⟨h2,h3⟩:=(Bool.and_eq_true _ _).mp h
 unfold evL
 rw[tl_z _ I h3,Int.add_zero]
 exact Int.add_lt_add_of_lt_of_le (zud.mp h1) (z87 _ N h2)
theorem zqv (d:Nat) (x y:LF):evL N I (slk d x y)=evL N I y+-1 * evL N I x+aS d:=by
 unfold slk
 rw[zhl,zhl,zgi]
 exact congrArg _ (Int.add_zero _)
theorem zzw {a l:LF}{w:Nat} (h:ngL (zr7 a (z7g w l))=true) (q:0≤evL N I a):0≤evL N I l:=Int.not_lt.mp fun z=>by
 have k:=z4o N I h
 unfold z7g at k
 rw[zhl,zgi,zhl] at k
 exact absurd (Int.add_nonneg q (Int.mul_nonneg_of_nonpos_of_nonpos (Int.neg_nonpos_of_nonneg (Int.natCast_nonneg w)) (show evL N I l+(1+(0+0))≤0 from z))) (Int.not_le.mpr k)
theorem z73: ∀(l:List AT) (a:LF),ckA l a=true→0≤evL N I a→arP N I l:=fun l=>by
 induction l with
 | nil=>exact fun a h q=>absurd (z4o N I h) (Int.not_lt.mpr q)
 | cons t l ih=>
  intro a h q
  obtain⟨d,t,w,x,y⟩:=t
  have up: ∀{b:LF},0≤evL N I b→0≤evL N I (zr7 a (zsi w b)):=fun z=>by
   rw[zhl,zgi];exact Int.add_nonneg q (Int.mul_nonneg (Int.natCast_nonneg _) z)
  match t,h with
  | 0,h=>
   obtain⟨h1,h2⟩:=(Bool.and_eq_true _ _).mp h
   exact fun hP=>ih _ h2 (up (by rw[zqv,z7e,z7e];exact sI d h1 hP))
  | 1,h=>
   obtain⟨h1,h2⟩:=(Bool.and_eq_true _ _).mp h
   exact fun hP=>ih _ h2 (up (by rw[zqv,z5n,z5n];exact sN d h1 hP))
  | 2,h=>
   obtain⟨h1,h2⟩:=(Bool.and_eq_true _ _).mp h
   have:=zzw N I h2 q
   rw[zqv,z7e,z7e] at this
   exact gI d h1 this
  | _+3,h=>
   obtain⟨h1,h2⟩:=(Bool.and_eq_true _ _).mp h
   have:=zzw N I h2 q
   rw[zqv,z5n,z5n] at this
   exact gN d h1 this
end
theorem ar (c:Nat) (N:List Nat) (I:List Int) (h:ckA (rdA 99 99 c) (0,[],[])=true):arP N I (rdA 99 99 c):=z73 N I _ _ h (Int.le_refl 0)
abbrev okA (c:Nat):Prop:=ckA (rdA 99 99 c) (0,[],[])=true
theorem zqp (c:Nat) (h:okA c):arP [] [] (rdA 99 99 c):=ar c _ _ h
theorem zrv (c:Nat) {y0:Int} (h:okA c):arP [] [y0] (rdA 99 99 c):=ar c _ _ h
theorem z9l (c:Nat) {y0 y1:Int} (h:okA c):arP [] [y0,y1] (rdA 99 99 c):=ar c _ _ h
theorem ar03 (c:Nat) {y0 y1 y2:Int} (h:okA c):arP [] [y0,y1,y2] (rdA 99 99 c):=ar c _ _ h
theorem zm (c:Nat) {x0:Nat} (h:okA c):arP [x0] [] (rdA 99 99 c):=ar c _ _ h
theorem zbr (c:Nat) {x0:Nat}{y0:Int} (h:okA c):arP [x0] [y0] (rdA 99 99 c):=ar c _ _ h
theorem z71 (c:Nat) {x0:Nat}{y0 y1:Int} (h:okA c):arP [x0] [y0,y1] (rdA 99 99 c):=ar c _ _ h
theorem z7k (c:Nat) {x0:Nat}{y0 y1 y2:Int} (h:okA c):arP [x0] [y0,y1,y2] (rdA 99 99 c):=ar c _ _ h
theorem ze (c:Nat) {x0 x1:Nat} (h:okA c):arP [x0,x1] [] (rdA 99 99 c):=ar c _ _ h
theorem yR (c:Nat) {x0 x1:Nat}{y0:Int} (h:okA c):arP [x0,x1] [y0] (rdA 99 99 c):=ar c _ _ h
theorem zuj (c:Nat) {x0 x1:Nat}{y0 y1:Int} (h:okA c):arP [x0,x1] [y0,y1] (rdA 99 99 c):=ar c _ _ h
theorem z9y (c:Nat) {x0 x1:Nat}{y0 y1 y2:Int} (h:okA c):arP [x0,x1] [y0,y1,y2] (rdA 99 99 c):=ar c _ _ h
theorem zj (c:Nat) {x0 x1 x2:Nat} (h:okA c):arP [x0,x1,x2] [] (rdA 99 99 c):=ar c _ _ h
theorem zbb (c:Nat) {x0 x1 x2:Nat}{y0:Int} (h:okA c):arP [x0,x1,x2] [y0] (rdA 99 99 c):=ar c _ _ h
theorem z8f (c:Nat) {x0 x1 x2:Nat}{y0 y1:Int} (h:okA c):arP [x0,x1,x2] [y0,y1] (rdA 99 99 c):=ar c _ _ h
theorem zT (c:Nat) {x0 x1 x2 x3:Nat} (h:okA c):arP [x0,x1,x2,x3] [] (rdA 99 99 c):=ar c _ _ h
theorem z7j (c:Nat) {x0 x1 x2 x3:Nat}{y0:Int} (h:okA c):arP [x0,x1,x2,x3] [y0] (rdA 99 99 c):=ar c _ _ h
theorem z9u (c:Nat) {x0 x1 x2 x3:Nat}{y0 y1:Int} (h:okA c):arP [x0,x1,x2,x3] [y0,y1] (rdA 99 99 c):=ar c _ _ h
theorem zd8 (c:Nat) {x0 x1 x2 x3 x4:Nat} (h:okA c):arP [x0,x1,x2,x3,x4] [] (rdA 99 99 c):=ar c _ _ h
theorem z9s (c:Nat) {x0 x1 x2 x3 x4:Nat}{y0:Int} (h:okA c):arP [x0,x1,x2,x3,x4] [y0] (rdA 99 99 c):=ar c _ _ h
theorem zn7 (c:Nat) {x0 x1 x2 x3 x4 x5:Nat} (h:okA c):arP [x0,x1,x2,x3,x4,x5] [] (rdA 99 99 c):=ar c _ _ h
theorem z30 (c:Nat) {x0 x1 x2 x3 x4 x5:Nat}{y0:Int} (h:okA c):arP [x0,x1,x2,x3,x4,x5] [y0] (rdA 99 99 c):=ar c _ _ h
theorem zmi (c:Nat) {x0 x1 x2 x3 x4 x5 x6:Nat} (h:okA c):arP [x0,x1,x2,x3,x4,x5,x6] [] (rdA 99 99 c):=ar c _ _ h
theorem zwl (c:Nat) {x0 x1 x2 x3 x4 x5 x6 x7:Nat} (h:okA c):arP [x0,x1,x2,x3,x4,x5,x6,x7] [] (rdA 99 99 c):=ar c _ _ h
theorem z9r (c:Nat) {x0 x1 x2 x3 x4 x5 x6 x7 x8:Nat} (h:okA c):arP [x0,x1,x2,x3,x4,x5,x6,x7,x8] [] (rdA 99 99 c):=ar c _ _ h
theorem z3f (c:Nat) {x0 x1 x2 x3 x4 x5 x6 x7 x8 x9:Nat} (h:okA c):arP [x0,x1,x2,x3,x4,x5,x6,x7,x8,x9] [] (rdA 99 99 c):=ar c _ _ h
theorem z8w (c:Nat) {x0 x1 x2 x3 x4 x5 x6 x7 x8 x9 x10:Nat}{y0:Int} (h:okA c):arP [x0,x1,x2,x3,x4,x5,x6,x7,x8,x9,x10] [y0] (rdA 99 99 c):=ar c _ _ h
theorem z7v (c:Nat) {x0 x1 x2 x3 x4 x5 x6 x7 x8 x9 x10 x11:Nat}{y0:Int} (h:okA c):arP [x0,x1,x2,x3,x4,x5,x6,x7,x8,x9,x10,x11] [y0] (rdA 99 99 c):=ar c _ _ h
theorem z77 (c:Nat) {x0 x1 x2 x3 x4 x5 x6 x7 x8 x9 x10 x11 x12:Nat} (h:okA c):arP [x0,x1,x2,x3,x4,x5,x6,x7,x8,x9,x10,x11,x12] [] (rdA 99 99 c):=ar c _ _ h
open PySem PyProof.Rows PySem.W
noncomputable def Aa:=@List.length_append
noncomputable def Ab:=@Nat.sub_add_cancel
noncomputable def Ac:=@wpAny_bind
noncomputable def Ad:=@Int.le_antisymm
noncomputable def Ae:=@decide_eq_false
noncomputable def Af:=@decide_eq_true
noncomputable def Ag:=@List.append_nil
noncomputable def Ah:=@List.append_assoc
noncomputable def Ai:=@Nat.le_antisymm
noncomputable def Aj:=@wpAny_pure
noncomputable def Ak:=@List.length_reverse
noncomputable def Al:=@Nat.le_refl
noncomputable def Am:=@Option.some_ne_none
noncomputable def An:=@List.length_take
noncomputable def Ao:=@List.mem_cons_of_mem
noncomputable def Ap:=@List.length_drop
noncomputable def Aq:=@List.mem_cons_self
noncomputable def Ar:=@List.length_map
noncomputable def As:=@List.reverse_reverse
noncomputable def Au:=@Bool.false_ne_true
noncomputable def Av:=@Nat.add_sub_cancel_left
noncomputable def Aw:=@Nat.min_eq_left
noncomputable def Ax:=@Nat.le_of_lt
noncomputable def Ay:=@List.getElem?_eq_getElem
noncomputable def Az:=@Nat.le_of_not_lt
noncomputable def Ba:=@Nat.lt_of_lt_of_le
noncomputable def Bb:=@List.take_append_drop
noncomputable def Bc:=@Nat.le_add_right
noncomputable def Bd:=@List.take_of_length_le
noncomputable def Be:=@Nat.succ_le_succ
noncomputable def Bf:=@List.getElem?_append_right
noncomputable def Bg:=@List.getElem?_append_left
noncomputable def Bh:=@beq_iff_eq
noncomputable def Bj:=@Int.ofNat_lt
noncomputable def Bk:=@Int.not_lt
noncomputable def Bl:=@List.length_pos_iff
noncomputable def Bm:=@List.getElem?_map
noncomputable def Bn:=@Option.map_eq_some_iff
noncomputable def Bo:=@List.all_eq_true
noncomputable def Bp:=@List.mem_of_getElem?
noncomputable def Bq:=@Nat.zero_le
noncomputable def Br:=@Nat.succ_pos
noncomputable def Bt:=@wpAny_holding
noncomputable def Bu:=@wpAny_mono
noncomputable def Bv:=@List.mem_singleton
noncomputable def Bw:=@List.drop_eq_getElem_cons
noncomputable def Bx:=@Array.length_toList
noncomputable def By:=@List.append_cons
noncomputable def Bz:=@Nat.sub_eq_zero_of_le
noncomputable def Ca:=@Bool.or_eq_true
noncomputable def Cb:=@Nat.lt_succ_self
noncomputable def Cc:=@Bool.and_eq_true
noncomputable def Cd:=@Nat.lt_irrefl
noncomputable def Ce:=@List.getElem?_eq_some_iff
theorem bc {G:Prop} (h: ¬G→False):G:=Classical.byContradiction h
abbrev Tx:=List Char
noncomputable abbrev mkS (x:Tx):Str:=⟨(x.map Char.toNat).toArray⟩
set_option genCtorIdx false in
inductive V where
 | none
 | bool (b:Bool)
 | int (i:Int)
 | str (s:Tx)
 | flt (x:UInt64)
 | tup (vs:List V)
 | rng (a b c:Int)
 | obj (a:Addr)
noncomputable def V.ctorIdx (x:V):Nat:=V.casesOn (motive_1:=fun _=>Nat) x 0 (fun _=>1) (fun _=>2) (fun _=>3) (fun _=>4) (fun _=>5) (fun _ _ _=>6) (fun _=>7)
set_option genCtorIdx false in
inductive O where
 | list (vs:List V)
 | ro (o:Obj) (vs:List V)
 | fn (o:Obj)
 | tab (pos:Pos) (q:Str)
 | inst (C d:Addr)
 | dict (fs:List (Str×V))
noncomputable def O.ctorIdx (x:O):Nat:=O.casesOn (motive:=fun _=>Nat) x (fun _=>0) (fun _ _=>1) (fun _=>2) (fun _ _=>3) (fun _ _=>4) (fun _=>5)
abbrev Mem:=Addr→Option O
structure St where
 loc:List (Option V)
 mem:Mem
set_option genCtorIdx false in
inductive Fl where
 | next | brk | cont
 | ret (v:V)
noncomputable def Fl.ctorIdx (x:Fl):Nat:=Fl.casesOn (motive:=fun _=>Nat) x 0 1 2 (fun _=>3)
mutual
inductive RV (h:Heap):Value→V→Prop
 | none:RV h .none .none
 | bool (b:Bool):RV h (.bool b) (.bool b)
 | int (i:Int) (t:Tok):RV h (.int i t) (.int i)
 | str (x:Tx) (t:Tok):RV h (.str (mkS x) t) (.str x)
 | flt (x:UInt64) (t:Tok):RV h (.float x t) (.flt x)
 | tup {a:Addr} {arr:Array Value} {n:Nat} {xs:List V}:h.get? a=some {cls:= .type "tuple",data:= .seq arr n}→RVs h arr.toList xs→RV h (.ref a) (.tup xs)
 | rng {a:Addr} {x y z:Int} {t u w:Tok}:h.get? a=some {cls:= .type "range",data:= .fields #[.int x t,.int y u,.int z w]}→RV h (.ref a) (.rng x y z)
 | obj (a:Addr):RV h (.ref a) (.obj a)
inductive RVs (h:Heap):List Value→List V→Prop
 | nil:RVs h [] []
 | cons {v:Value} {x:V} {vs:List Value} {xs:List V}:RV h v x→RVs h vs xs→RVs h (v::vs) (x::xs)
end
noncomputable def zjj (q:Str) (o:Obj):Prop:= ∃xs t,o.data= .fields xs∧xs[1]? =some (.str q t)
noncomputable def Imm (o:Obj):Prop:=(o.cls= .type "tuple"∧∃xs n,o.data= .seq xs n)∨(o.cls= .type "range"∧∃xs,o.data= .fields xs∧∃x t,xs[1]? =some (.int x t))∨∃q,zjj q o
noncomputable def TK (h h':Heap):Prop:= ∀b o,h.get? b=some o→Imm o→h'.get? b=some o
theorem TK.refl (h:Heap):TK h h:=fun _ _ e _=>e
theorem TK.trans {h h' h'':Heap} (a:TK h h') (b:TK h' h''):TK h h'':=fun x o e c=>b x o (a x o e c) c
theorem TK.of {h h':Heap} (a: ∀b o,h.get? b=some o→h'.get? b=some o):TK h h':=fun x o e _=>a x o e
theorem RV.both {h:Heap}{M:Value→V→Prop}{N:List Value→List V→Prop} (h1:M .none .none) (h2: ∀b,M (.bool b) (.bool b)) (h3: ∀i t,M (.int i t) (.int i)) (h4: ∀x t,M (.str (mkS x) t) (.str x)) (h5: ∀x t,M (.float x t) (.flt x))
  (h6: ∀(a:Addr) (arr:Array Value) (n:Nat) (xs:List V),h.get? a=some {cls:= .type "tuple",data:= .seq arr n}→N arr.toList xs→M (.ref a) (.tup xs))
  (h7: ∀(a:Addr) (x y z:Int) (t u w:Tok),h.get? a=some {cls:= .type "range",data:= .fields #[.int x t,.int y u,.int z w]}→M (.ref a) (.rng x y z)) (h8: ∀a,M (.ref a) (.obj a)) (n1:N [] [])
  (n2: ∀(v:Value) (x:V) (vs:List Value) (xs:List V),RV h v x→RVs h vs xs→M v x→N vs xs→N (v::vs) (x::xs)):
  (∀{v:Value} {x:V},RV h v x→M v x)∧∀{vs:List Value} {xs:List V},RVs h vs xs→N vs xs:=
 ⟨fun r=>RV.rec (motive_1:=fun v x _=>M v x) (motive_2:=fun v x _=>N v x) h1 h2 h3 h4 h5 (fun e _ q=>h6 _ _ _ _ e q) (fun e=>h7 _ _ _ _ _ _ _ e) h8 n1 (fun a b c d=>n2 _ _ _ _ a b c d) r,
   fun r=>RVs.rec (motive_1:=fun v x _=>M v x) (motive_2:=fun v x _=>N v x) h1 h2 h3 h4 h5 (fun e _ q=>h6 _ _ _ _ e q) (fun e=>h7 _ _ _ _ _ _ _ e) h8 n1 (fun a b c d=>n2 _ _ _ _ a b c d) r⟩
theorem RV.tks {h h':Heap} (k:TK h h'):(∀{v:Value}{x:V},RV h v x→RV h' v x)∧∀{vs:List Value}{xs:List V},RVs h vs xs→RVs h' vs xs:=
 RV.both (M:=RV h') (N:=RVs h') .none .bool .int .str .flt (fun _ _ _ _ e r=> .tup (k _ _ e (.inl ⟨rfl,_,_,rfl⟩)) r) (fun _ _ _ _ _ _ _ e=> .rng (k _ _ e (.inr (.inl ⟨rfl,_,rfl,_,_,rfl⟩)))) .obj .nil (fun _ _ _ _ _ _ a r=> .cons a r)
theorem RV.tk {h h':Heap} (k:TK h h') {v:Value}{x:V} (r:RV h v x):RV h' v x:=(RV.tks k).1 r
theorem RVs.tk {h h':Heap} (k:TK h h') {v:List Value}{x:List V} (r:RVs h v x):RVs h' v x:=(RV.tks k).2 r
theorem RVs.ind {h:Heap}{N:List Value→List V→Prop} (n1:N [] []) (n2: ∀(v:Value) (x:V) (vs:List Value) (xs:List V),RV h v x→RVs h vs xs→N vs xs→N (v::vs) (x::xs)) {vs:List Value}{xs:List V} (r:RVs h vs xs):N vs xs:=
 (RV.both (h:=h) (M:=fun _ _=>True) (N:=N) trivial (fun _=>trivial) (fun _ _=>trivial) (fun _ _=>trivial) (fun _ _=>trivial) (fun _ _ _ _ _ _=>trivial) (fun _ _ _ _ _ _ _ _=>trivial) (fun _=>trivial) n1 (fun v x vs xs a b _ d=>n2 v x vs xs a b d)).2 r
theorem RVs.length {h:Heap}{vs:List Value}{xs:List V} (r:RVs h vs xs):vs.length=xs.length:=RVs.ind (N:=fun vs xs=>vs.length=xs.length) rfl (fun _ _ _ _ _ _ e=>congrArg (·+1) e) r
theorem RVs.append {h:Heap}{vs ws:List Value}{xs ys:List V} (r:RVs h vs xs) (b:RVs h ws ys):RVs h (vs++ws) (xs++ys):=RVs.ind (N:=fun vs xs=>RVs h (vs++ws) (xs++ys)) b (fun _ _ _ _ a _ e=> .cons a e) r
theorem RVs.get {h:Heap}{vs:List Value}{xs:List V} (r:RVs h vs xs): ∀{i:Nat}{x:V},xs[i]? =some x→∃v,vs[i]? =some v∧RV h v x:=by
 refine RVs.ind (N:=fun vs xs=> ∀{i:Nat} {x:V},xs[i]? =some x→∃v,vs[i]? =some v∧RV h v x) ?_ ?_ r
 ·intro i x e;cases i<;>exact(Am _ e.symm).elim
 ·intro v x vs xs a _ ih i y e
  cases i with
  | zero=>cases e;exact⟨_,rfl,a⟩
  | succ i=>exact ih (i:=i) e
theorem RVs.take {h:Heap}{vs:List Value}{xs:List V} (r:RVs h vs xs): ∀n:Nat,RVs h (vs.take n) (xs.take n):=by
 refine RVs.ind (N:=fun vs xs=> ∀n:Nat,RVs h (vs.take n) (xs.take n)) ?_ ?_ r
 ·intro n;cases n<;>exact .nil
 ·intro v x vs xs a _ ih n
  cases n with
  | zero=>exact .nil
  | succ n=>exact .cons a (ih n)
theorem RVs.drop {h:Heap}{vs:List Value}{xs:List V} (r:RVs h vs xs): ∀n:Nat,RVs h (vs.drop n) (xs.drop n):=by
 refine RVs.ind (N:=fun vs xs=> ∀n:Nat,RVs h (vs.drop n) (xs.drop n)) ?_ ?_ r
 ·intro n;cases n<;>exact .nil
 ·intro v x vs xs a b ih n
  cases n with
  | zero=>exact .cons a b
  | succ n=>exact ih n
theorem RVs.set {h:Heap}{vs:List Value}{xs:List V} (r:RVs h vs xs): ∀(n:Nat) {v:Value}{x:V},RV h v x→RVs h (vs.set n v) (xs.set n x):=by
 refine RVs.ind (N:=fun vs xs=> ∀(n:Nat) {v:Value} {x:V},RV h v x→RVs h (vs.set n v) (xs.set n x)) ?_ ?_ r
 ·intro n _ _ _;cases n<;>exact .nil
 ·intro v x vs xs a b ih n _ _ c
  cases n with
  | zero=>exact .cons c b
  | succ n=>exact .cons a (ih n c)
theorem RVs.one {h:Heap}{v:Value}{x:V} (r:RV h v x):RVs h [v] [x]:= .cons r .nil
section
variable {h:Heap}{cv:Value}{cs:List Value}{M:Value→Prop}{N:List Value→Prop}
@[elab_as_elim] theorem RV.eN (r:RV h cv .none) (k:M .none):M cv:=by cases r;exact k
@[elab_as_elim] theorem RV.eB {b:Bool} (r:RV h cv (.bool b)) (k:M (.bool b)):M cv:=by cases r;exact k
@[elab_as_elim] theorem RV.eI {i:Int} (r:RV h cv (.int i)) (k: ∀t,M (.int i t)):M cv:=by cases r;exact k _
@[elab_as_elim] theorem RV.eF {x:UInt64} (r:RV h cv (.flt x)) (k: ∀t,M (.float x t)):M cv:=by cases r;exact k _
@[elab_as_elim] theorem RV.eS {x:Tx} (r:RV h cv (.str x)) (k: ∀t,M (.str (mkS x) t)):M cv:=by cases r;exact k _
@[elab_as_elim] theorem RV.eT {xs:List V} (r:RV h cv (.tup xs)) (k: ∀a arr n,h.get? a=some {cls:= .type "tuple",data:= .seq arr n}→RVs h arr.toList xs→M (.ref a)):M cv:=by cases r with | tup g q=>exact k _ _ _ g q
@[elab_as_elim] theorem RV.eO {a:Addr} (r:RV h cv (.obj a)) (k:M (.ref a)):M cv:=by cases r;exact k
@[elab_as_elim] theorem RVs.e0 (r:RVs h cs []) (k:N []):N cs:=by cases r;exact k
@[elab_as_elim] theorem RVs.eC {x:V} {xs:List V} (r:RVs h cs (x::xs)) (k: ∀c cs,RV h c x→RVs h cs xs→N (c::cs)):N cs:=by cases r with | cons a b=>exact k _ _ a b
@[elab_as_elim] theorem RVs.e1 {x:V} (r:RVs h cs [x]) (k: ∀c,RV h c x→N [c]):N cs:=by cases r with | cons a b=>cases b;exact k _ a
@[elab_as_elim] theorem RVs.e2 {x y:V} (r:RVs h cs [x,y]) (k: ∀c d,RV h c x→RV h d y→N [c,d]):N cs:=by cases r with | cons a b=>cases b with | cons c d=>cases d;exact k _ _ a c
@[elab_as_elim] theorem RVs.e3 {x y z:V} (r:RVs h cs [x,y,z]) (k: ∀c d e,RV h c x→RV h d y→RV h e z→N [c,d,e]):N cs:=by cases r with | cons a b=>cases b with | cons c d=>cases d with | cons e f=>cases f;exact k _ _ _ a c e
end
noncomputable def zd4 (h:Heap):List DictEntry→List (Str×V)→Prop
 | [],[]=>True
 | e::es,f::fs=>(∃t,e.key= .str f.1 t)∧RV h e.val f.2∧zd4 h es fs
 | _,_=>False
theorem zd4.tk {h h':Heap} (k:TK h h'): ∀{es:List DictEntry}{fs:List (Str×V)},zd4 h es fs→zd4 h' es fs
 | [],[],_=>trivial
 | _::_,_::_,⟨a,b,c⟩=>⟨a,b.tk k,zd4.tk k c⟩
 | [],_::_,x=>x.elim
 | _::_,[],x=>x.elim
inductive RO (h:Heap) (a:Addr):O→Prop
 | list {arr:Array Value} {n:Nat} {vs:List V}:h.get? a=some {cls:= .type "list",data:= .seq arr n}→RVs h arr.toList vs→RO h a (.list vs)
 | ro {arr:Array Value} {n:Nat} {o:Obj} {vs:List V}:h.get? a=some o→o.cls= .type "list"→o.data= .seq arr n→RVs h arr.toList vs→RO h a (.ro o vs)
 | fn {o oc:Obj} {fd:FuncData} {c:Addr}:h.get? a=some o→o.data= .func fd→fd.code= .ref c→h.get? c=some oc→zjj fd.qualname oc→RO h a (.fn o)
 | tab0 {pos:Pos} {q:Str}:h.get? a=some (tabObj #[])→RO h a (.tab pos q)
 | tab1 {pos:Pos} {q:Str} {oc:Obj} {c:Addr}:h.get? a=some (tabObj #[rawInt pos.line,rawInt pos.col,.ref c])→h.get? c=some oc→zjj q oc→RO h a (.tab pos q)
 | inst {C d:Addr}:h.get? a=some (instObj C d)→RO h a (.inst C d)
 | dict {es:List DictEntry} {n:Nat} {fs:List (Str×V)}:h.get? a=some (dictOf es n)→zd4 h es fs→RO h a (.dict fs)
theorem RO.l {h:Heap}{a:Addr}{vs:List V} (r:RO h a (.list vs)): ∃arr n,h.get? a=some {cls:= .type "list",data:= .seq arr n}∧RVs h arr.toList vs∧arr.size=vs.length:=by
 cases r with
 | list g q=>exact⟨_,_,g,q,q.length⟩
theorem RO.obj {h:Heap}{a:Addr}{o:O} (r:RO h a o): ∃x,h.get? a=some x∧¬Imm x:=by
 cases r with
 | list e _=>exact⟨_,e,by simp[Imm,zjj]⟩
 | ro e c d _=>exact⟨_,e,by rw[Imm,c];simp[zjj,d]⟩
 | fn e d=>exact⟨_,e,by rintro (⟨_,_,_,q⟩ | ⟨_,_,q,_⟩ | ⟨_,_,_,q,_⟩)<;>rw[d] at q<;>cases q⟩
 | tab0 e=>exact⟨_,e,by simp[Imm,zjj]⟩
 | tab1 e=>exact⟨_,e,by simp[Imm,zjj,rawInt]⟩
 | inst e=>exact⟨_,e,by simp[Imm,zjj]⟩
 | dict e _=>exact⟨_,e,by simp[Imm,zjj]⟩
theorem RO.lt {h:Heap}{a:Addr}{o:O} (r:RO h a o):a<h.objs.size:=let ⟨_,e,_⟩:=r.obj;Heap.lt_size e
theorem RO.keep {h h':Heap}{a:Addr}{o:O} (r:RO h a o) (k:TK h h') (e: ∀x,h.get? a=some x→h'.get? a=some x):RO h' a o:=by
 cases r with
 | list g s=>exact .list (e _ g) (s.tk k)
 | ro g c d s=>exact .ro (e _ g) c d (s.tk k)
 | fn g d f x i=>exact .fn (e _ g) d f (k _ _ x (.inr (.inr ⟨_,i⟩))) i
 | tab0 g=>exact .tab0 (e _ g)
 | tab1 g x i=>exact .tab1 (e _ g) (k _ _ x (.inr (.inr ⟨_,i⟩))) i
 | inst g=>exact .inst (e _ g)
 | dict g s=>exact .dict (e _ g) (s.tk k)
structure GS where
 prog:Program
 w:World
 s0:Shared
 base:Heap
 keep:Addr→Option Obj
 mg:Str→Option Value
 mb:Str→Option Value
 K:Frag
 fns:List String
 meths:List String
structure GS.ok (G:GS):Prop where
 g:G.base.Ns mainGlobals G.mg
 b:G.base.Ns builtinsNs G.mb
 lim:G.base.NoLimit
 k:G.K.In G.base
set_option genCtorIdx false in
inductive VK where
 | loc
 | own (c:Addr)
 | ref (c:Addr)
noncomputable def VK.ctorIdx (x:VK):Nat:=VK.casesOn (motive:=fun _=>Nat) x 0 (fun _=>1) (fun _=>2)
structure FE where
 env:Env
 vars:List (Str×VK)
structure FE.ok (Γ:FE):Prop where
 fn:Γ.env.scope.kind= .function
 glb:Γ.env.globals=mainGlobals
 bui:Γ.env.builtins=builtinsNs
 loc: ∀(i:Nat) x,Γ.vars[i]? =some (x,.loc)→Γ.env.kindOf x=some .local
 own: ∀(i:Nat) x c,Γ.vars[i]? =some (x,.own c)→Γ.env.kindOf x=some .cell∧Γ.env.cells.lookup x=some c∧c≠Γ.env.locals
 ref: ∀(i:Nat) x c,Γ.vars[i]? =some (x,.ref c)→(Γ.env.kindOf x=some .cell∨Γ.env.kindOf x=some .free)∧Γ.env.cells.lookup x=some c
 names: ∀(i j:Nat) x k k',Γ.vars[i]? =some (x,k)→Γ.vars[j]? =some (x,k')→i=j
 cells: ∀(i j:Nat) x y c,Γ.vars[i]? =some (x,.own c)→Γ.vars[j]? =some (y,.own c)→i=j
 dbg: ∀(i:Nat) x k,Γ.vars[i]? =some (x,k)→(x==("__debug__":Str))=false∧(x==("__classdict__":Str))=false
abbrev Frz:=Addr→Option Obj
structure Rep (G:GS) (Γ:FE) (frz:Frz) (σ:St) (s:Shared):Prop where
 same: ∃h tk,s={G.s0 with heap:=h,toks:=tk}
 hbase: ∀b o,G.base.get? b=some o→frz b=some o
 hkeep: ∀b o,G.keep b=some o→frz b=some o
 hfrz: ∀b o,frz b=some o→s.heap.get? b=some o
 hmem: ∀a o,σ.mem a=some o→RO s.heap a o
 hmemF: ∀a o,σ.mem a=some o→frz a=none
 hab:G.base.objs.size≤Γ.env.locals
 hlf:frz Γ.env.locals=none
 hlm:σ.mem Γ.env.locals=none
 hns: ∃m,s.heap.Ns Γ.env.locals m∧∀(i:Nat) x v,Γ.vars[i]? =some (x,.loc)→σ.loc[i]? =some (some v)→∃cv,m x=some cv∧RV s.heap cv v
 hown: ∀(i:Nat) x c,Γ.vars[i]? =some (x,.own c)→frz c=none∧σ.mem c=none∧∃o ov,s.heap.get? c=some o∧o.data= .cell ov∧∀v,σ.loc[i]? =some (some v)→∃cv,ov=some cv∧RV s.heap cv v
 href: ∀(i:Nat) x c,Γ.vars[i]? =some (x,.ref c)→∃o ov,frz c=some o∧o.data= .cell ov∧∀v,σ.loc[i]? =some (some v)→∃cv,ov=some cv∧RV s.heap cv v
structure Rp (G:GS) (frz:Frz) (m:Mem) (s:Shared):Prop where
 same: ∃h tk,s={G.s0 with heap:=h,toks:=tk}
 hbase: ∀b o,G.base.get? b=some o→frz b=some o
 hkeep: ∀b o,G.keep b=some o→frz b=some o
 hfrz: ∀b o,frz b=some o→s.heap.get? b=some o
 hmem: ∀a o,m a=some o→RO s.heap a o
 hmemF: ∀a o,m a=some o→frz a=none
 hsz:G.base.objs.size≤s.heap.objs.size
noncomputable def upd (m:Mem) (a:Addr) (o:O):Mem:=fun b=>if b=a then some o else m b
theorem ups (m:Mem) (a:Addr) (o:O):upd m a o a=some o:=by simp[upd]
theorem upn (m:Mem) {a b:Addr} (o:O) (h:b≠a):upd m a o b=m b:=by simp[upd,h]
theorem zu0 (m:Mem) (a:Addr) (o o':O):upd (upd m a o) a o'=upd m a o':=by
 funext b;by_cases h:b=a<;>simp[upd,h]
theorem z5f {m:Mem}{a:Addr}{o:O} (h:m a=some o):upd m a o=m:=by
 funext b;by_cases e:b=a
 ·subst e;rw[ups,h]
 ·simp[upd,e]
section
variable {G:GS}{Γ:FE}{frz:Frz}{σ:St}{s:Shared}
structure Kp (L:Addr) (h h':Heap):Prop where
 all: ∀b o,b≠L→h.get? b=some o→h'.get? b=some o
 ns: ∀m,h.Ns L m→h'.Ns L m
theorem zeu {h:Heap}{L:Addr}{m:Str→Option Value} (n:h.Ns L m) {o:Obj} (e:h.get? L=some o): ¬Imm o:=by
 obtain⟨o',es,ep,e',d,_⟩:=n
 rw[e] at e';cases e'
 rintro (⟨_,_,_,q⟩ | ⟨_,_,q,_⟩ | ⟨_,_,_,q,_⟩)<;>rw[d] at q<;>cases q
theorem Rep.kp_tk (r:Rep G Γ frz σ s) {h':Heap} (k:Kp Γ.env.locals s.heap h'):TK s.heap h':=fun b o e i=>by
 by_cases hb:b=Γ.env.locals
 ·subst hb
  obtain⟨m,n,_⟩:=r.hns
  exact absurd i (zeu n e)
 ·exact k.all b o hb e
theorem Rep.mem_ne (r:Rep G Γ frz σ s) {a:Addr}{o:O} (e:σ.mem a=some o):a≠Γ.env.locals:=fun q=>by subst q;rw[r.hlm] at e;exact(Am _ e.symm).elim
theorem Rep.frz_ne (r:Rep G Γ frz σ s) {a:Addr}{o:Obj} (e:frz a=some o):a≠Γ.env.locals:=fun q=>by subst q;rw[r.hlf] at e;exact(Am _ e.symm).elim
theorem Rep.growL (ok:Γ.ok) (r:Rep G Γ frz σ s) {h':Heap}{tk:Nat} (k:Kp Γ.env.locals s.heap h'):Rep G Γ frz σ {s with heap:=h',toks:=tk} where
 same:=let ⟨_,_,e⟩:=r.same;⟨h',tk,by rw[e]⟩
 hbase:=r.hbase
 hkeep:=r.hkeep
 hfrz:=fun b o e=>k.all b o (r.frz_ne e) (r.hfrz b o e)
 hmem:=fun a o e=>(r.hmem a o e).keep (r.kp_tk k) fun x=>k.all a x (r.mem_ne e)
 hmemF:=r.hmemF
 hab:=r.hab
 hlf:=r.hlf
 hlm:=r.hlm
 hns:=let ⟨m,n,f⟩:=r.hns;⟨m,k.ns m n,fun i x v a b=>let ⟨cv,e,q⟩:=f i x v a b;⟨cv,e,q.tk (r.kp_tk k)⟩⟩
 hown:=fun i x c e=>let ⟨a,b,o,ov,g,d,f⟩:=r.hown i x c e;⟨a,b,o,ov,k.all _ _ (ok.own i x c e).2.2 g,d,fun v q=>let ⟨cv,e1,e2⟩:=f v q;⟨cv,e1,e2.tk (r.kp_tk k)⟩⟩
 href:=fun i x c a=>let ⟨o,ov,e,d,f⟩:=r.href i x c a;⟨o,ov,e,d,fun v b=>let ⟨cv,e1,e2⟩:=f v b;⟨cv,e1,e2.tk (r.kp_tk k)⟩⟩
theorem Rep.grow (r:Rep G Γ frz σ s) {h':Heap}{tk:Nat} (k: ∀b o,s.heap.get? b=some o→h'.get? b=some o):Rep G Γ frz σ {s with heap:=h',toks:=tk} where
 same:=let ⟨_,_,e⟩:=r.same;⟨h',tk,by rw[e]⟩
 hbase:=r.hbase
 hkeep:=r.hkeep
 hfrz:=fun b o e=>k b o (r.hfrz b o e)
 hmem:=fun a o e=>(r.hmem a o e).keep (.of k) (k a)
 hmemF:=r.hmemF
 hab:=r.hab
 hlf:=r.hlf
 hlm:=r.hlm
 hns:=let ⟨m,n,f⟩:=r.hns;⟨m,n.keeps k,fun i x v a b=>let ⟨cv,e,q⟩:=f i x v a b;⟨cv,e,q.tk (.of k)⟩⟩
 hown:=fun i x c e=>let ⟨a,b,o,ov,g,d,f⟩:=r.hown i x c e;⟨a,b,o,ov,k _ _ g,d,fun v q=>let ⟨cv,e1,e2⟩:=f v q;⟨cv,e1,e2.tk (.of k)⟩⟩
 href:=fun i x c a=>let ⟨o,ov,e,d,f⟩:=r.href i x c a;⟨o,ov,e,d,fun v b=>let ⟨cv,e1,e2⟩:=f v b;⟨cv,e1,e2.tk (.of k)⟩⟩
theorem Rep.toks (r:Rep G Γ frz σ s) (tk:Nat):Rep G Γ frz σ {s with toks:=tk}:=r.grow (h':=s.heap) fun _ _ e=>e
theorem Rep.changeL (ok:Γ.ok) (r:Rep G Γ frz σ s) {a:Addr}{o₀ o:O} (ha:σ.mem a=some o₀) {h':Heap}{tk:Nat}
  (k: ∀b o,b≠a→b≠Γ.env.locals→s.heap.get? b=some o→h'.get? b=some o) (kn: ∀m,s.heap.Ns Γ.env.locals m→h'.Ns Γ.env.locals m)
  (ro:TK s.heap h'→RO h' a o):Rep G Γ frz {σ with mem:=upd σ.mem a o} {s with heap:=h',toks:=tk}∧TK s.heap h':=by
 have tkk:TK s.heap h':=fun b x e c=>by
  by_cases hb:b=a
  ·subst hb
   refine bc fun z9=>?_
   obtain⟨y,ey,hy⟩:=(r.hmem _ _ ha).obj
   refine z9 ?_
   rw[e] at ey;cases ey;exact absurd c hy
  ·by_cases hl:b=Γ.env.locals
   ·subst hl
    refine bc fun z9=>?_
    obtain⟨m,n,_⟩:=r.hns
    refine z9 ?_
    exact absurd c (zeu n e)
   ·exact k b x hb hl e
 have nf: ∀b o,frz b=some o→b≠a:=fun b o e q=>by subst q;rw[r.hmemF _ _ ha] at e;exact(Am _ e.symm).elim
 refine⟨⟨let ⟨_,_,e⟩:=r.same;⟨h',tk,by rw[e]⟩,r.hbase,r.hkeep,fun b o e=>k b o (nf b o e) (r.frz_ne e) (r.hfrz b o e),?_,?_,r.hab,r.hlf,?_,?_,?_,?_⟩,tkk⟩
 ·intro b x e
  replace e:upd _ _ _ _=_:=e
  by_cases hb:b=a
  ·subst hb;rw[ups] at e;cases e;exact ro tkk
  ·rw[upn _ _ hb] at e;exact(r.hmem b x e).keep tkk fun y=>k b y hb (r.mem_ne e)
 ·intro b x e
  replace e:upd _ _ _ _=_:=e
  by_cases hb:b=a
  ·subst hb;exact r.hmemF _ _ ha
  ·rw[upn _ _ hb] at e;exact r.hmemF b x e
 ·show upd _ _ _ _=none
  rw[upn];exact r.hlm
  intro q;rw[←q,r.hlm] at ha;exact(Am _ ha.symm).elim
 ·refine bc fun z9=>?_
  obtain⟨m,n,f⟩:=r.hns
  refine z9 ?_
  refine⟨m,kn m n,fun i x v p q=>?_⟩
  refine bc fun z9=>?_
  obtain⟨cv,e1,e2⟩:=f i x v p q
  refine z9 ?_
  exact⟨cv,e1,e2.tk tkk⟩
 ·intro i x c e
  refine bc fun z9=>?_
  obtain⟨p,q,o,ov,g,d,f⟩:=r.hown i x c e
  refine z9 ?_
  have hc:c≠a:=by intro z;rw[z,ha] at q;exact(Am _ q).elim
  refine⟨p,?_,o,ov,k _ _ hc (ok.own i x c e).2.2 g,d,fun v z=>?_⟩
  ·show upd _ _ _ _=none
   rw[upn _ _ hc];exact q
  ·obtain⟨cv,e1,e2⟩:=f v z;exact⟨cv,e1,e2.tk tkk⟩
 ·intro i x c p
  refine bc fun z9=>?_
  obtain⟨o,ov,e1,d,f⟩:=r.href i x c p
  refine z9 ?_
  exact⟨o,ov,e1,d,fun v b=>let ⟨cv,e1,e2⟩:=f v b;⟨cv,e1,e2.tk tkk⟩⟩
theorem Rep.change (ok:Γ.ok) (r:Rep G Γ frz σ s) {a:Addr}{o₀ o:O} (ha:σ.mem a=some o₀) {h':Heap}{tk:Nat} (k: ∀b o,b≠a→s.heap.get? b=some o→h'.get? b=some o)
  (ro:TK s.heap h'→RO h' a o):Rep G Γ frz {σ with mem:=upd σ.mem a o} {s with heap:=h',toks:=tk}∧TK s.heap h':=
 r.changeL ok ha (fun b o hb _=>k b o hb) (fun m n=>n.extBut (b:=a) (fun b o hb e=>k b o hb e) (Ne.symm (r.mem_ne ha))) ro
theorem Rep.none_of_ge (r:Rep G Γ frz σ s) {a:Addr} (h:s.heap.objs.size≤a):σ.mem a=none∧frz a=none:=by
 constructor
 ·cases e:σ.mem a with
  | none=>rfl
  | some o=>exact absurd (r.hmem _ _ e).lt (Nat.not_lt.mpr h)
 ·cases e:frz a with
  | none=>rfl
  | some o=>exact absurd (Heap.lt_size (r.hfrz _ _ e)) (Nat.not_lt.mpr h)
theorem Rep.rp (r:Rep G Γ frz σ s):Rp G frz σ.mem s:=
 ⟨r.same,r.hbase,r.hkeep,r.hfrz,r.hmem,r.hmemF,Ax (Nat.lt_of_le_of_lt r.hab (let ⟨_,n,_⟩:=r.hns;n.lt))⟩
theorem Rep.lt_locals (r:Rep G Γ frz σ s):Γ.env.locals<s.heap.objs.size:=let ⟨_,n,_⟩:=r.hns;n.lt
theorem Rep.join (r:Rep G Γ frz σ s) {a:Addr}{o:O} (hm:σ.mem a=none) (hf:frz a=none) (hl:a≠Γ.env.locals) (hc: ∀(i:Nat) x c,Γ.vars[i]? =some (x,.own c)→c≠a) (ro:RO s.heap a o):
  Rep G Γ frz {σ with mem:=upd σ.mem a o} s:=by
 refine⟨r.same,r.hbase,r.hkeep,r.hfrz,?_,?_,r.hab,r.hlf,?_,r.hns,?_,r.href⟩
 ·intro b x e
  replace e:upd _ _ _ _=_:=e
  by_cases hb:b=a
  ·subst hb;rw[ups] at e;cases e;exact ro
  ·rw[upn _ _ hb] at e;exact r.hmem b x e
 ·intro b x e
  replace e:upd _ _ _ _=_:=e
  by_cases hb:b=a
  ·subst hb;exact hf
  ·rw[upn _ _ hb] at e;exact r.hmemF b x e
 ·show upd _ _ _ _=none
  rw[upn _ _ (Ne.symm hl)];exact r.hlm
 ·intro i x c e
  refine bc fun z9=>?_
  obtain⟨p,q,o,ov,g,d,f⟩:=r.hown i x c e
  refine z9 ?_
  refine⟨p,?_,o,ov,g,d,f⟩
  show upd _ _ _ _=none
  rw[upn _ _ (hc i x c e)];exact q
theorem Rep.fresh (r:Rep G Γ frz σ s) {a:Addr}{o:O} (ha:s.heap.objs.size≤a) {h':Heap}{tk:Nat} (k: ∀b o,s.heap.get? b=some o→h'.get? b=some o)
  (ro:RO h' a o):Rep G Γ frz {σ with mem:=upd σ.mem a o} {s with heap:=h',toks:=tk}:=by
 have r':=r.grow (tk:=tk) k
 refine r'.join (r.none_of_ge ha).1 (r.none_of_ge ha).2 (Ne.symm (Nat.ne_of_lt (Ba r.lt_locals ha))) (fun i x c e=>?_) ro
 obtain⟨_,_,o',ov',g',_,_⟩:=r.hown i x c e
 exact Nat.ne_of_lt (Ba (Heap.lt_size g') ha)
structure Aside (G:GS) (Γ:FE) (frz:Frz) (σ:St) (a:Addr):Prop where
 m:σ.mem a=none
 f:frz a=none
 l:a≠Γ.env.locals
 c: ∀(i:Nat) x c,Γ.vars[i]? =some (x,.own c)→c≠a
 r: ∀(i:Nat) x c,Γ.vars[i]? =some (x,.ref c)→c≠a
theorem Rep.asideNew (r:Rep G Γ frz σ s) {a:Addr} (h:s.heap.objs.size≤a):Aside G Γ frz σ a where
 m:=(r.none_of_ge h).1
 f:=(r.none_of_ge h).2
 l:=Ne.symm (Nat.ne_of_lt (Ba r.lt_locals h))
 c:=fun i x c e=>let ⟨_,_,_,_,g,_⟩:=r.hown i x c e;Nat.ne_of_lt (Ba (Heap.lt_size g) h)
 r:=fun i x c e=>let ⟨_,_,g,_⟩:=r.href i x c e;Nat.ne_of_lt (Ba (Heap.lt_size (r.hfrz _ _ g)) h)
theorem Rep.asideTk (r:Rep G Γ frz σ s) {a:Addr}{o:Obj} (_d:Aside G Γ frz σ a) (ho:s.heap.get? a=some o) (ni: ¬Imm o) {h':Heap} (k: ∀b o,b≠a→s.heap.get? b=some o→h'.get? b=some o):TK s.heap h':=fun b x e c=>by
 by_cases hb:b=a
 ·subst hb;rw[ho] at e;cases e;exact absurd c ni
 ·exact k b x hb e
theorem Rep.aside (r:Rep G Γ frz σ s) {a:Addr}{o:Obj} (d:Aside G Γ frz σ a) (ho:s.heap.get? a=some o) (ni: ¬Imm o) {h':Heap}{tk:Nat} (k: ∀b o,b≠a→s.heap.get? b=some o→h'.get? b=some o):
  Rep G Γ frz σ {s with heap:=h',toks:=tk}∧TK s.heap h':=by
 have t:=r.asideTk d ho ni k
 have nf: ∀b o,frz b=some o→b≠a:=fun b o e q=>by subst q;rw[d.f] at e;exact(Am _ e.symm).elim
 have nm: ∀b o,σ.mem b=some o→b≠a:=fun b o e q=>by subst q;rw[d.m] at e;exact(Am _ e.symm).elim
 refine⟨⟨let ⟨_,_,e⟩:=r.same;⟨h',tk,by rw[e]⟩,r.hbase,r.hkeep,fun b o e=>k b o (nf b o e) (r.hfrz b o e),fun b x e=>(r.hmem b x e).keep t fun y ey=>k b y (nm b x e) ey,r.hmemF,r.hab,r.hlf,r.hlm,?_,?_,?_⟩,t⟩
 ·refine bc fun z9=>?_
  obtain⟨m,n,f⟩:=r.hns
  refine z9 ?_
  exact⟨m,n.extBut (b:=a) (fun b o hb e=>k b o hb e) (Ne.symm d.l),fun i x v p q=>let ⟨cv,e1,e2⟩:=f i x v p q;⟨cv,e1,e2.tk t⟩⟩
 ·intro i x c e
  refine bc fun z9=>?_
  obtain⟨p,q,o,ov,g,dd,f⟩:=r.hown i x c e
  refine z9 ?_
  exact⟨p,q,o,ov,k _ _ (d.c i x c e) g,dd,fun v z=>let ⟨cv,e1,e2⟩:=f v z;⟨cv,e1,e2.tk t⟩⟩
 ·intro i x c e
  refine bc fun z9=>?_
  obtain⟨o,ov,g,dd,f⟩:=r.href i x c e
  refine z9 ?_
  exact⟨o,ov,g,dd,fun v z=>let ⟨cv,e1,e2⟩:=f v z;⟨cv,e1,e2.tk t⟩⟩
theorem Rep.fr (r:Rep G Γ frz σ s) {m:Str→Option Value} (n:s.heap.Ns Γ.env.locals m):Fr G.base Γ.env.locals s.heap m:=
 ⟨n,fun b o e=>r.hfrz b o (r.hbase b o e),r.hab⟩
noncomputable def ziv (G:GS) (L:Addr) (h:Heap) (D:List Addr):List (Addr×Obj):=
 (List.range h.objs.size).filterMap fun b=>if b=L∨b∈D∨(G.base.get? b).isSome then none else(h.get? b).map (b,·)
theorem zer {L:Addr}{h:Heap}{D:List Addr}{b:Addr}{o:Obj}:(b,o)∈ziv G L h D↔b≠L∧b∉D∧G.base.get? b=none∧h.get? b=some o:=by
 unfold ziv
 rw[List.mem_filterMap]
 constructor
 ·rintro ⟨c,_,e⟩
  split at e
  ·exact(Am _ e.symm).elim
  ·rename_i q
   rw[Bn] at e
   obtain⟨x,e1,e2⟩:=e
   cases e2
   simp only[not_or,Option.not_isSome_iff_eq_none] at q
   exact⟨q.1,q.2.1,q.2.2,e1⟩
 ·rintro ⟨h1,h2,h3,h4⟩
  refine⟨b,List.mem_range.mpr (Heap.lt_size h4),?_⟩
  rw[if_neg (by simp[h1,h2,h3]),h4];rfl
theorem Rep.rest (_r:Rep G Γ frz σ s) (D:List Addr):News G.base Γ.env.locals s.heap (ziv G Γ.env.locals s.heap D):=fun p hp=>by
 obtain⟨b,o⟩:=p
 obtain⟨h1,h2,h3,h4⟩:=zer.mp hp
 exact⟨h4,h1,h3⟩
theorem Rep.keep_of_rest (r:Rep G Γ frz σ s) {D:List Addr}{h':Heap}{m:Str→Option Value} (F:Fr G.base Γ.env.locals h' m) (N:News G.base Γ.env.locals h' (ziv G Γ.env.locals s.heap D)):
  ∀b o,b∉D→b≠Γ.env.locals→s.heap.get? b=some o→h'.get? b=some o:=fun b o hd hl e=>by
 cases q:G.base.get? b with
 | some o'=>
  have:=r.hfrz b o' (r.hbase b o' q)
  rw[e] at this;cases this
  exact F.keep b o q
 | none=>exact(N (b,o) (zer.mpr ⟨hl,hd,q,e⟩)).1
theorem Rep.freeze (r:Rep G Γ frz σ s) {frz':Frz} (h1: ∀b o,frz b=some o→frz' b=some o) (h2: ∀b o,frz' b=some o→s.heap.get? b=some o)
  (h3: ∀a o,σ.mem a=some o→frz' a=none) (h4:frz' Γ.env.locals=none) (h5: ∀(i:Nat) x c,Γ.vars[i]? =some (x,.own c)→frz' c=none):Rep G Γ frz' σ s:=
 ⟨r.same,fun b o e=>h1 b o (r.hbase b o e),fun b o e=>h1 b o (r.hkeep b o e),h2,r.hmem,h3,r.hab,h4,r.hlm,r.hns,fun i x c e=>⟨h5 i x c e,(r.hown i x c e).2⟩,fun i x c a=>let ⟨o,ov,e,d,q⟩:=r.href i x c a;⟨o,ov,h1 _ _ e,d,q⟩⟩
noncomputable def zO (frz:Frz) (a:Addr) (o:Obj):Frz:=fun b=>if b=a then some o else frz b
theorem Rep.freezeOne (r:Rep G Γ frz σ s) {a:Addr}{o:Obj} (ho:s.heap.get? a=some o) (hf: ∀o',frz a=some o'→o'=o) (hm:σ.mem a=none) (hl:a≠Γ.env.locals) (hc: ∀(i:Nat) x c,Γ.vars[i]? =some (x,.own c)→c≠a):
  Rep G Γ (zO frz a o) σ s:=by
 refine r.freeze ?_ ?_ ?_ ?_ ?_
 ·intro b x e;unfold zO;split
  ·rename_i q;subst q;rw[hf x e]
  ·exact e
 ·intro b x e;unfold zO at e;split at e
  ·rename_i q;subst q;cases e;exact ho
  ·exact r.hfrz b x e
 ·intro b x e;unfold zO;split
  ·rename_i q;subst q;rw[hm] at e;exact(Am _ e.symm).elim
  ·exact r.hmemF b x e
 ·unfold zO;rw[if_neg (Ne.symm hl)];exact r.hlf
 ·intro i x c e;unfold zO;rw[if_neg (hc i x c e)];exact(r.hown i x c e).1
theorem Rep.thaw (r:Rep G Γ frz σ s) {frz':Frz} (h0: ∀b o,G.base.get? b=some o→frz' b=some o) (h0': ∀b o,G.keep b=some o→frz' b=some o) (h1: ∀b o,frz' b=some o→frz b=some o) (h2: ∀(i:Nat) x c o,Γ.vars[i]? =some (x,.ref c)→frz c=some o→frz' c=some o):Rep G Γ frz' σ s:=by
 have nn: ∀a,frz a=none→frz' a=none:=fun a e=>by
  cases q:frz' a with
  | none=>rfl
  | some o=>rw[h1 a o q] at e;cases e
 exact⟨r.same,h0,h0',fun b o e=>r.hfrz b o (h1 b o e),r.hmem,fun a o e=>nn _ (r.hmemF a o e),r.hab,nn _ r.hlf,r.hlm,r.hns,fun i x c e=>⟨nn _ (r.hown i x c e).1,(r.hown i x c e).2⟩,
  fun i x c a=>let ⟨o,ov,e,d,q⟩:=r.href i x c a;⟨o,ov,h2 i x c _ a e,d,q⟩⟩
theorem Rep.asideIn (r:Rep G Γ frz σ s) {a:Addr}{o:Obj} (d:Aside G Γ frz σ a) (ho:s.heap.get? a=some o):Rep G Γ (zO frz a o) σ s:=
 r.freezeOne ho (fun o' e=>by rw[d.f] at e;exact(Am _ e.symm).elim) d.m d.l d.c
theorem Rep.asideOut {σ₀:St}{s₀:Shared} (r₀:Rep G Γ frz σ₀ s₀) {a:Addr}{o:Obj} (d:Aside G Γ frz σ₀ a) (r:Rep G Γ (zO frz a o) σ s):Rep G Γ frz σ s∧Aside G Γ frz σ a∧s.heap.get? a=some o:=by
 have e:zO frz a o a=some o:=by simp[zO]
 have hm:σ.mem a=none:=by
  cases q:σ.mem a with
  | none=>rfl
  | some x=>have:=r.hmemF a x q;rw[e] at this;cases this
 refine⟨r.thaw r₀.hbase r₀.hkeep (fun b x q=>?_) (fun i x c x' p q=>?_),⟨hm,d.f,d.l,d.c,d.r⟩,r.hfrz _ _ e⟩
 ·unfold zO;rw[if_neg (fun z=>by subst z;rw[d.f] at q;cases q)];exact q
 ·unfold zO at q;rw[if_neg (d.r i x c p)] at q;exact q
end
abbrev NoE:Value→Shared→Prop:=fun _ _=>False
noncomputable def PV (G:GS) (Γ:FE) (frz:Frz) (s:Shared) (Q:V→St→Prop):Value→Shared→Prop:=
 fun cv s'=> ∃v σ',RV s'.heap cv v∧Rep G Γ frz σ' s'∧TK s.heap s'.heap∧Q v σ'
noncomputable def PVs (G:GS) (Γ:FE) (frz:Frz) (s:Shared) (Q:List V→St→Prop):List Value→Shared→Prop:=
 fun cv s'=> ∃v σ',RVs s'.heap cv v∧Rep G Γ frz σ' s'∧TK s.heap s'.heap∧Q v σ'
noncomputable def PB (G:GS) (Γ:FE) (frz:Frz) (s:Shared) (Q:Bool→St→Prop):Bool→Shared→Prop:=
 fun b s'=> ∃σ',Rep G Γ frz σ' s'∧TK s.heap s'.heap∧Q b σ'
noncomputable def PU (G:GS) (Γ:FE) (frz:Frz) (s:Shared) (Q:St→Prop):Unit→Shared→Prop:=
 fun _ s'=> ∃σ',Rep G Γ frz σ' s'∧TK s.heap s'.heap∧Q σ'
inductive RF (h:Heap):Flow→Fl→Prop
 | next:RF h .next .next
 | brk:RF h .brk .brk
 | cont:RF h .cont .cont
 | ret {v:Value} {x:V}:RV h v x→RF h (.ret v) (.ret x)
noncomputable def PF (G:GS) (Γ:FE) (frz:Frz) (s:Shared) (Q:Fl→St→Prop):Flow→Shared→Prop:=
 fun f s'=> ∃fl σ',RF s'.heap f fl∧Rep G Γ frz σ' s'∧TK s.heap s'.heap∧Q fl σ'
noncomputable def W (G:GS) (A:Around) (Γ:FE) (t:Sem Value) (Q:V→St→Prop) (σ:St):Prop:=
 ∀frz s,Rep G Γ frz σ s→wpAny (model G.prog G.w) A t (PV G Γ frz s Q) NoE s
noncomputable def Ws (G:GS) (A:Around) (Γ:FE) (t:Sem (List Value)) (Q:List V→St→Prop) (σ:St):Prop:=
 ∀frz s,Rep G Γ frz σ s→wpAny (model G.prog G.w) A t (PVs G Γ frz s Q) NoE s
noncomputable def WB (G:GS) (A:Around) (Γ:FE) (t:Sem Bool) (Q:Bool→St→Prop) (σ:St):Prop:=
 ∀frz s,Rep G Γ frz σ s→wpAny (model G.prog G.w) A t (PB G Γ frz s Q) NoE s
noncomputable def WF (G:GS) (A:Around) (Γ:FE) (t:Sem Flow) (Q:Fl→St→Prop) (σ:St):Prop:=
 ∀frz s,Rep G Γ frz σ s→wpAny (model G.prog G.w) A t (PF G Γ frz s Q) NoE s
set_option genCtorIdx false in
mutual
inductive Bi where
 | len | min | max | sum | range | list | chr | ord
inductive Me where
 | find | startswith | endswith | join | append | pop | insert
end
noncomputable def Bi.name:Bi→String
 | .len=>"len" | .min=>"min" | .max=>"max" | .sum=>"sum" | .range=>"range" | .list=>"list" | .chr=>"chr" | .ord=>"ord"
noncomputable def Me.name:Me→String
 | .find=>"find" | .startswith=>"startswith" | .endswith=>"endswith" | .join=>"join" | .append=>"append" | .pop=>"pop" | .insert=>"insert"
set_option genCtorIdx false in
inductive Ex where
 | lit (v:V)
 | var (i:Nat)
 | bin (op:Operator) (a b:Ex)
 | neg (a:Ex)
 | not (a:Ex)
 | list (es:List Ex)
 | tup (es:List Ex)
 | cmp (a:Ex) (ops:List CmpOp) (es:List Ex)
 | band (es:List Ex)
 | bor (es:List Ex)
 | idx (a i:Ex)
 | slc (a lo hi st:Ex)
 | attr (o:Ex) (n:String)
 | bi (b:Bi) (args:List Ex)
 | call (f:String) (args:List Ex)
 | me (o:Ex) (m:Me) (args:List Ex)
 | imeth (o:Ex) (m:String) (args:List Ex)
 | lcall (i:Nat) (args:List Ex)
 | comp (elt:Ex) (one:Bool) (is:List Nat) (it:Ex) (cs:List Ex) (n:Nat) (caps:List Nat)
set_option genCtorIdx false in
inductive Tg where
 | var (i:Nat)
 | tup (is:List Nat)
 | idx (o i:Ex)
 | slc (o lo hi:Ex)
 | attr (o:Ex) (n:String)
set_option genCtorIdx false in
inductive Sm where
 | expr (e:Ex)
 | assign (ts:List Tg) (e:Ex)
 | aug (i:Nat) (op:Operator) (e:Ex)
 | del (o i:Ex)
 | ife (c:Ex) (a b:List Sm)
 | whl (c:Ex) (b:List Sm)
 | fr (t:Tg) (it:Ex) (b:List Sm)
 | ret (e:Ex)
 | brk
 | junk
structure PC where
 cls:Addr
 fld:String→Bool
 cc:String→Option V
 call:String→List V→(V→Mem→Prop)→Mem→Prop
 meth:String→List V→(V→Mem→Prop)→Mem→Prop
 loc:V→List V→(V→Mem→Prop)→Mem→Prop
noncomputable def zK {α:Type} (xs:List α) (i:Int):Option α:=(seqIndex? i xs.length).bind (xs[·]?)
noncomputable def z0f (n:Nat) (i:Int):Nat:=clipAt n i
noncomputable def zfj (n:Nat) (lo:Option Int):Nat:=lo.elim 0 (z0f n)
noncomputable def zh5 (n:Nat) (hi:Option Int):Nat:=hi.elim n (z0f n)
noncomputable def zcd {α:Type} (xs:List α) (lo hi:Option Int):List α:=
 (xs.drop (zfj xs.length lo)).take (zh5 xs.length hi-zfj xs.length lo)
noncomputable def zhu:V→Option (Option Int)
 | .none=>some none
 | .int i=>some (some i)
 | _=>none
noncomputable def rd0 (v:V):Option PyData:=match v with
 | .none=>some .none
 | .bool b=>some (.bool b)
 | .int i=>some (.int i)
 | .str s=>some (.str (mkS s))
 | _=>none
noncomputable def listAt (m:Mem) (a:Addr):Option (List V):=(m a).bind fun o=>match o with
 | .list vs=>some vs
 | _=>none
noncomputable def rd:Nat→Mem→V→Option PyData
 | 0,_,v=>rd0 v
 | n+1,m,v=>match v with
  | .tup vs=>(vs.mapM (rd n m)).map .tuple
  | .obj a=>(listAt m a).bind fun vs=>(vs.mapM (rd n m)).map .list
  | v=>rd0 v
noncomputable def yD (n:String):List (Str×V)→Option V
 | []=>none
 | (x,v)::r=>if x=Str.ofString n then some v else yD n r
noncomputable def zn5 (n:String) (v:V):List (Str×V)→List (Str×V)
 | []=>[(Str.ofString n,v)]
 | (x,u)::r=>if x=Str.ofString n then(x,v)::r else(x,u)::zn5 n v r
noncomputable def zdt (a c:Int):Nat→List V
 | 0=>[]
 | n+1=> .int a::zdt (a+c) c n
noncomputable def zq6 (a b c:Int):List V:=zdt a c (Builtin.Range.rangeSize a b c).toNat
noncomputable def sma (n:Nat):Prop:=n≤1000000
noncomputable def zr (i:Int):Prop:=-1000000000<i∧i<1000000000
noncomputable def zz6 (vs:List V) (K:V→Prop):Prop:=match vs with
 | [v]=>K v
 | _=>False
noncomputable def z9n (vs:List V) (K:V→V→Prop):Prop:=match vs with
 | [v,u]=>K v u
 | _=>False
noncomputable def asI (v:V) (K:Int→Prop):Prop:=match v with
 | .int i=>K i
 | _=>False
noncomputable def asS (v:V) (K:Tx→Prop):Prop:=match v with
 | .str i=>K i
 | _=>False
noncomputable def asO (v:V) (K:Addr→Prop):Prop:=match v with
 | .obj i=>K i
 | _=>False
theorem zds {vs:List V}{K:V→Prop} (h:zz6 vs K): ∃v,vs=[v]∧K v:=by
 cases vs with
 | nil=>exact h.elim
 | cons v r=>cases r with
  | nil=>exact⟨v,rfl,h⟩
  | cons=>exact h.elim
theorem zw4 {vs:List V}{K:V→V→Prop} (h:z9n vs K): ∃v u,vs=[v,u]∧K v u:=by
 cases vs with
 | nil=>exact h.elim
 | cons v r=>cases r with
  | nil=>exact h.elim
  | cons u r=>cases r with
   | nil=>exact⟨v,u,rfl,h⟩
   | cons=>exact h.elim
theorem zb3 {v:V}{K:Int→Prop} (h:asI v K): ∃i,v= .int i∧K i:=by cases v<;>first | exact False.elim h | exact⟨_,rfl,h⟩
theorem zay {v:V}{K:Tx→Prop} (h:asS v K): ∃i,v= .str i∧K i:=by cases v<;>first | exact False.elim h | exact⟨_,rfl,h⟩
theorem zdq {v:V}{K:Addr→Prop} (h:asO v K): ∃i,v= .obj i∧K i:=by cases v<;>first | exact False.elim h | exact⟨_,rfl,h⟩
noncomputable def zos (a b:V) (K:Int→Int→Prop):Prop:=asI a fun x=>asI b fun y=>K x y
noncomputable def asN (v:V) (K:Int→Prop):Prop:=match v with
 | .int i=>K i
 | .bool b=>K (if b=true then 1 else 0)
 | _=>False
noncomputable def asB (v:V) (K:Int→Prop):Prop:=match v with
 | .bool b=>K (if b=true then 1 else 0)
 | _=>False
noncomputable def z9h (m:Mem) (v u:V) (Q:V→Mem→Prop):Prop:=match v with
 | .int a=>asN u fun b=>Q (.int (a+b)) m
 | .bool a=>asB u fun b=>Q (.int ((if a=true then 1 else 0)+b)) m
 | .str a=>asS u fun b=>sma a.length∧sma b.length∧Q (.str (a++b)) m
 | .obj a=>asO u fun b=> ∃xs ys,m a=some (.list xs)∧m b=some (.list ys)∧sma xs.length∧sma ys.length∧∀c,m c=none→Q (.obj c) (upd m c (.list (xs++ys)))
 | _=>False
noncomputable def z9j (m:Mem) (v u:V) (Q:V→Mem→Prop):Prop:=match v with
 | .int a=>asI u fun b=>zr a∧Q (.int (a * b)) m
 | .obj a=>asI u fun k=> ∃x,m a=some (.list [x])∧zr k∧sma k.toNat∧∀c,m c=none→Q (.obj c) (upd m c (.list (List.replicate k.toNat x)))
 | _=>False
noncomputable def zge (m:Mem) (op:Operator) (v u:V) (Q:V→Mem→Prop):Prop:=match op with
 | .Add=>z9h m v u Q
 | .Sub=>zos v u fun a b=>Q (.int (a-b)) m
 | .Mult=>z9j m v u Q
 | .FloorDiv=>zos v u fun a b=>0<b∧zr b∧Q (.int (a/b)) m
 | .Mod=>zos v u fun a b=>0<b∧Q (.int (a%b)) m
 | .Div=>zos v u fun a b=>0≤a∧a≤8∧b=2∧Q (.flt (Float64.ofFrac false a.natAbs 2)) m
 | _=>False
noncomputable def zvz (m:Mem) (a b:V) (K:Bool→Prop):Prop:= ∃d e,rd 8 m a=some d∧rd 8 m b=some e∧K (PyData.eqv d e)
noncomputable def zuv (m:Mem) (a b:V) (K:Bool→Prop):Prop:=match a with
 | .int x=>(match b with | .int y=>K (decide (x=y)) | _=>zvz m a b K)
 | .str x=>(match b with | .str y=>K (decide (x=y)) | _=>zvz m a b K)
 | _=>zvz m a b K
noncomputable def zys (m:Mem) (a b:V) (K:Bool→Prop):Prop:=match b with
 | .obj l=> ∃vs d ds,m l=some (.list vs)∧sma vs.length∧rd 7 m a=some d∧vs.mapM (rd 7 m)=some ds∧K (ds.any fun e=>PyData.eqv e d)
 | _=>False
noncomputable def ltV (a b:V) (Q:Bool→Prop):Prop:=match b with
 | .flt y=>asI a fun x=>Q (Float64.cmpInt y x==some .gt)
 | _=>zos a b fun x y=>Q (decide (x<y))
noncomputable def zdw (m:Mem) (op:CmpOp) (a b:V) (Q:Bool→Prop):Prop:=match op with
 | .Eq=>zuv m a b Q
 | .NotEq=>zuv m a b fun t=>Q (!t)
 | .Lt=>ltV a b Q
 | .LtE=>zos a b fun x y=>Q (decide (x≤y))
 | .Gt=>zos a b fun x y=>Q (decide (y<x))
 | .GtE=>zos a b fun x y=>Q (decide (y≤x))
 | .Is=>False
 | .IsNot=>False
 | .In=>zys m a b Q
 | .NotIn=>zys m a b fun t=>Q (!t)
noncomputable def zR (m:Mem):V→(Bool→Prop)→Prop
 | .none,Q=>Q false
 | .bool b,Q=>Q b
 | .int i,Q=>Q (i !=0)
 | .str s,Q=>sma s.length∧Q (!s.isEmpty)
 | .tup vs,Q=>sma vs.length∧Q (!vs.isEmpty)
 | .obj a,Q=> ∃vs,m a=some (.list vs)∧sma vs.length∧Q (!vs.isEmpty)
 | _,_=>False
noncomputable def ixV (m:Mem) (v:V) (i:Int) (Q:V→Prop):Prop:=match v with
 | .str s=>zr i∧∃c,zK s i=some c∧Q (.str [c])
 | .tup vs=>zr i∧∃v,zK vs i=some v∧Q v
 | .obj a=>zr i∧∃vs v,m a=some (.list vs)∧zK vs i=some v∧Q v
 | _=>False
noncomputable def zj9 (m:Mem) (v u:V) (Q:V→Prop):Prop:=asI u fun i=>ixV m v i Q
noncomputable def slK (v:V) (K:Option Int→Prop):Prop:=match v with
 | .none=>K none
 | .int i=>K (some i)
 | _=>False
noncomputable def stK (v:V) (K:Option Int→Prop):Prop:=match v with
 | .none=>K none
 | _=>False
noncomputable def z49 {α:Type} (xs:List α) (lo hi:Option Int) (st:Option Int):List α:=match st with
 | none=>zcd xs lo hi
 | some k=>(sliceRange (sliceBounds lo hi (some k) xs.length).1 (sliceBounds lo hi (some k) xs.length).2.1 (sliceBounds lo hi (some k) xs.length).2.2).filterMap (xs[·]?)
noncomputable def slS (m:Mem) (s:Tx) (lo hi st:V) (Q:V→Mem→Prop):Prop:=match st with
 | .none=>slK lo fun a=>slK hi fun b=>sma s.length∧Q (.str (zcd s a b)) m
 | _=>False
noncomputable def zmh (m:Mem) (v lo hi st:V) (Q:V→Mem→Prop):Prop:=match v with
 | .str s=>slS m s lo hi st Q
 | .obj l=>slK lo fun a=>slK hi fun b=>stK st fun k=> ∃vs,(m l=some (.list vs)∨∃o,m l=some (.ro o vs))∧sma vs.length∧∀c,m c=none→Q (.obj c) (upd m c (.list (z49 vs a b k)))
 | _=>False
noncomputable def zhv (P:PC) (m:Mem):V→String→(V→Prop)→Prop
 | .obj a,n,Q=> ∃d fs,m a=some (.inst P.cls d)∧m d=some (.dict fs)∧match yD n fs with
   | some v=>P.fld n=true∧Q v
   | none=> ∃v,P.cc n=some v∧Q v
 | _,_,_=>False
noncomputable def Occ (s t:Tx) (i:Nat):Prop:=i+t.length≤s.length∧(s.drop i).take t.length=t
noncomputable def zga (s t:Tx) (k:Nat) (r:Int):Prop:=(r=-1∧∀i,k≤i→¬Occ s t i)∨∃i:Nat,r=i∧k≤i∧Occ s t i∧∀j,k≤j→j<i→¬Occ s t j
noncomputable def z9m (m:Mem) (v:V) (Q:V→Mem→Prop):Prop:=match v with
 | .str s=>sma s.length∧Q (.int s.length) m
 | .tup vs=>sma vs.length∧Q (.int vs.length) m
 | .obj a=> ∃vs,(m a=some (.list vs)∨∃o,m a=some (.ro o vs))∧sma vs.length∧Q (.int vs.length) m
 | _=>False
noncomputable def z4y (m:Mem) (v:V) (Q:V→Mem→Prop):Prop:=match v with
 | .obj a=> ∃vs,m a=some (.list vs)∧sma vs.length∧∀c,m c=none→Q (.obj c) (upd m c (.list vs))
 | _=>False
noncomputable def z9x (m:Mem) (v:V) (Q:V→Mem→Prop):Prop:=asO v fun a=> ∃ns:List Int,(m a=some (.list (ns.map V.int))∨∃o,m a=some (.ro o (ns.map V.int)))∧Q (.int ns.sum) m
noncomputable def z0k (vs:List V) (K:V→Prop) (L:V→V→Prop):Prop:=match vs with
 | [v]=>K v
 | [v,u]=>L v u
 | _=>False
noncomputable def z6r (vs:List V) (K:V→Prop) (L:V→V→Prop) (N:V→V→V→Prop):Prop:=match vs with
 | [v]=>K v
 | [v,u]=>L v u
 | [v,u,w]=>N v u w
 | _=>False
noncomputable def z48 (vs:List V) (L:V→V→Prop) (N:V→V→V→Prop):Prop:=match vs with
 | [v,u]=>L v u
 | [v,u,w]=>N v u w
 | _=>False
noncomputable def zsj (m:Mem) (b:Bi) (args:List V) (Q:V→Mem→Prop):Prop:=match b with
 | .len=>zz6 args fun v=>z9m m v Q
 | .min=>z48 args (fun v u=>zos v u fun a b=>Q (.int (if b<a then b else a)) m) fun v u w=>False
 | .max=>False
 | .range=>z6r args (fun v=>asI v fun a=>zr a∧Q (.rng 0 a 1) m) (fun v u=>zos v u fun a b=>zr a∧zr b∧Q (.rng a b 1) m)
   fun v u w=>zos v u fun a b=>asI w fun c=>zr a∧zr b∧zr c∧0<c∧Q (.rng a b c) m
 | .list=>zz6 args fun v=>z4y m v Q
 | .sum=>zz6 args fun v=>z9x m v Q
 | .chr=>False
 | .ord=>False
theorem zsu {vs:List V}{K:V→Prop}{L:V→V→Prop} (h:z0k vs K L):(∃v,vs=[v]∧K v)∨∃v u,vs=[v,u]∧L v u:=by
 match vs,h with
 | [v],h=>exact .inl ⟨_,rfl,h⟩
 | [v,u],h=>exact .inr ⟨_,_,rfl,h⟩
theorem zto {vs:List V}{K:V→Prop}{L:V→V→Prop}{N:V→V→V→Prop} (h:z6r vs K L N):(∃v,vs=[v]∧K v)∨(∃v u,vs=[v,u]∧L v u)∨∃v u w,vs=[v,u,w]∧N v u w:=by
 match vs,h with
 | [v],h=>exact .inl ⟨_,rfl,h⟩
 | [v,u],h=>exact .inr (.inl ⟨_,_,rfl,h⟩)
 | [v,u,w],h=>exact .inr (.inr ⟨_,_,_,rfl,h⟩)
theorem zua {vs:List V}{L:V→V→Prop}{N:V→V→V→Prop} (h:z48 vs L N):(∃v u,vs=[v,u]∧L v u)∨∃v u w,vs=[v,u,w]∧N v u w:=by
 match vs,h with
 | [v,u],h=>exact .inl ⟨_,_,rfl,h⟩
 | [v,u,w],h=>exact .inr ⟨_,_,_,rfl,h⟩
noncomputable def zwk (m:Mem) (v:V) (me:Me):Prop:=match me with
 | .find=>asS v fun _=>True
 | .startswith=>asS v fun _=>True
 | .endswith=>asS v fun _=>True
 | .join=>asS v fun _=>True
 | .append=>asO v fun a=> ∃l,m a=some (.list l)
 | .pop=>asO v fun a=> ∃l,m a=some (.list l)
 | .insert=>asO v fun a=> ∃l,m a=some (.list l)
noncomputable def zvd (m:Mem) (o:V) (me:Me) (args:List V) (Q:V→Mem→Prop):Prop:=match me with
 | .find=>asS o fun s=>z0k args (fun v=>asS v fun t=>sma s.length∧sma t.length∧∀r,zga s t 0 r→Q (.int r) m)
   fun v u=>asS v fun t=>asI u fun i=>sma s.length∧sma t.length∧0≤i∧∀r,zga s t i.toNat r→Q (.int r) m
 | .startswith=>asS o fun s=>zz6 args fun v=>asS v fun t=>Q (.bool (decide (s.take t.length=t))) m
 | .endswith=>asS o fun s=>zz6 args fun v=>asS v fun t=>Q (.bool (decide (t.length≤s.length∧s.drop (s.length-t.length)=t))) m
 | .append=>asO o fun a=>zz6 args fun v=> ∃vs,m a=some (.list vs)∧sma vs.length∧Q .none (upd m a (.list (vs++[v])))
 | .join=>asS o fun s=>s=[]∧zz6 args fun v=>asO v fun a=> ∃xs:List Tx,m a=some (.list (xs.map V.str))∧xs.length≤500000∧xs.flatten.length≤500000∧Q (.str xs.flatten) m
 | .pop=>asO o fun a=>args=[]∧∃vs v,m a=some (.list (vs++[v]))∧sma vs.length∧Q v (upd m a (.list vs))
 | .insert=>asO o fun a=>z9n args fun i v=>asI i fun k=>0≤k∧zr k∧∃vs,m a=some (.list vs)∧sma vs.length∧Q .none (upd m a (.list (vs.take k.toNat++v::vs.drop k.toNat)))
noncomputable def St.set (σ:St) (i:Nat) (v:V):St:={σ with loc:=σ.loc.set i (some v)}
noncomputable def St.setAll (σ:St):List Nat→List V→St
 | i::is,v::vs=>(σ.set i v).setAll is vs
 | _,_=>σ
noncomputable def ze7 (one:Bool) (is:List Nat) (v:V) (Q:St→Prop) (σ:St):Prop:=
 if one then(match is with | [i]=>Q (σ.set i v) | _=>False) else match v with | .tup vs=>vs.length=is.length∧Q (σ.setAll is vs) | _=>False
noncomputable def za5 (m:Mem):V→(List V→(Mem→Prop)→Prop)→Prop
 | .tup vs,K=>sma vs.length∧K vs fun _=>True
 | .str s,K=>sma s.length∧K (s.map fun c=> .str [c]) fun _=>True
 | .rng a b c,K=>zr a∧zr b∧zr c∧0<c∧K (zq6 a b c) fun _=>True
 | .obj a,K=> ∃vs,m a=some (.list vs)∧sma vs.length∧K vs fun m'=>m' a=some (.list vs)
 | _,_=>False
noncomputable def zed (bind:V→(St→Prop)→St→Prop) (test:(Bool→St→Prop)→St→Prop) (elt:(V→St→Prop)→St→Prop) (g:Mem→Prop) (R:List V→St→Prop):List V→List V→St→Prop
 | [],us,σ=>g σ.mem∧R us σ
 | v::vs,us,σ=>g σ.mem∧bind v (test fun b σ₁=>if b then elt (fun u σ₂=>zed bind test elt g R vs (us++[u]) σ₂) σ₁ else zed bind test elt g R vs us σ₁) σ
noncomputable def zfw (σ:St) (n:Nat) (caps:List Nat):St:=⟨List.replicate n none++caps.map fun i=>(σ.loc[i]?).join,σ.mem⟩
mutual
noncomputable def wpE (P:PC):Ex→(V→St→Prop)→St→Prop
 | .lit v,Q,σ=>Q v σ
 | .var i,Q,σ=>match σ.loc[i]? with | some (some v)=>Q v σ | _=>False
 | .bin op a b,Q,σ=>wpE P a (fun v σ₁=>wpE P b (fun u σ₂=>zge σ₂.mem op v u fun r m=>Q r {σ₂ with mem:=m}) σ₁) σ
 | .neg a,Q,σ=>wpE P a (fun v σ₁=>match v with | .int i=>Q (.int (-i)) σ₁ | _=>False) σ
 | .not a,Q,σ=>wpE P a (fun v σ₁=>zR σ₁.mem v fun b=>Q (.bool (!b)) σ₁) σ
 | .list es,Q,σ=>zk9 P es (fun vs σ₁=> ∀a,σ₁.mem a=none→Q (.obj a) {σ₁ with mem:=upd σ₁.mem a (.list vs)}) σ
 | .tup es,Q,σ=>zk9 P es (fun vs σ₁=>Q (.tup vs) σ₁) σ
 | .cmp a ops es,Q,σ=>wpE P a (fun v σ₁=>zsk P ops es v (fun b σ₂=>Q (.bool b) σ₂) σ₁) σ
 | .band es,Q,σ=>zwa P true es Q σ
 | .bor es,Q,σ=>zwa P false es Q σ
 | .idx a i,Q,σ=>wpE P a (fun v σ₁=>wpE P i (fun u σ₂=>zj9 σ₂.mem v u fun r=>Q r σ₂) σ₁) σ
 | .slc a lo hi st,Q,σ=>wpE P a (fun v σ₁=>wpE P lo (fun l σ₂=>wpE P hi (fun h σ₃=>wpE P st (fun s σ₄=>zmh σ₄.mem v l h s fun r m=>Q r {σ₄ with mem:=m}) σ₃) σ₂) σ₁) σ
 | .attr o n,Q,σ=>wpE P o (fun v σ₁=>zhv P σ₁.mem v n fun r=>Q r σ₁) σ
 | .bi b args,Q,σ=>zk9 P args (fun vs σ₁=>zsj σ₁.mem b vs fun r m=>Q r {σ₁ with mem:=m}) σ
 | .call f args,Q,σ=>zk9 P args (fun vs σ₁=>P.call f vs (fun r m=>Q r {σ₁ with mem:=m}) σ₁.mem) σ
 | .me o m args,Q,σ=>wpE P o (fun v σ₁=>zwk σ₁.mem v m∧zk9 P args (fun vs σ₂=>zvd σ₂.mem v m vs fun r m'=>Q r {σ₂ with mem:=m'}) σ₁) σ
 | .imeth o n args,Q,σ=>wpE P o (fun v σ₁=>(∃a d fs,v= .obj a∧σ₁.mem a=some (.inst P.cls d)∧σ₁.mem d=some (.dict fs)∧yD n fs=none)∧
   zk9 P args (fun vs σ₂=>P.meth n (v::vs) (fun r m=>Q r {σ₂ with mem:=m}) σ₂.mem) σ₁) σ
 | .lcall i args,Q,σ=>match σ.loc[i]? with | some (some v)=>zk9 P args (fun vs σ₁=>P.loc v vs (fun r m=>Q r {σ₁ with mem:=m}) σ₁.mem) σ | _=>False
 | .comp elt one is it cs n caps,Q,σ=>wpE P it (fun v σ₁=>za5 σ₁.mem v fun vs g=>sma vs.length∧
   zed (ze7 one is) (zia P true cs) (wpE P elt) g (fun us σ'=> ∀a,σ'.mem a=none→Q (.obj a) {σ₁ with mem:=upd σ'.mem a (.list us)}) vs [] (zfw σ₁ n caps)) σ
noncomputable def zk9 (P:PC):List Ex→(List V→St→Prop)→St→Prop
 | [],Q,σ=>Q [] σ
 | e::es,Q,σ=>wpE P e (fun v σ₁=>zk9 P es (fun vs σ₂=>Q (v::vs) σ₂) σ₁) σ
noncomputable def zsk (P:PC):List CmpOp→List Ex→V→(Bool→St→Prop)→St→Prop
 | op::ops,e::es,v,Q,σ=>match ops with
  | []=>(match es with | []=>wpE P e (fun u σ₁=>zdw σ₁.mem op v u fun b=>Q b σ₁) σ | _::_=>False)
  | _::_=>wpE P e (fun u σ₁=>zdw σ₁.mem op v u fun b=>if b then zsk P ops es u Q σ₁ else Q false σ₁) σ
 | _,_,_,_,_=>False
noncomputable def zwa (P:PC) (k:Bool):List Ex→(V→St→Prop)→St→Prop
 | [],_,_=>False
 | [e],Q,σ=>wpE P e Q σ
 | e::es,Q,σ=>wpE P e (fun v σ₁=>zR σ₁.mem v fun b=>if b=k then zwa P k es Q σ₁ else Q v σ₁) σ
noncomputable def wpT (P:PC):Ex→((V→St→Prop)→St→Prop)→(Bool→St→Prop)→St→Prop
 | .not a,_,Q,σ=>wpT P a (wpE P a) (fun b σ₁=>Q (!b) σ₁) σ
 | .band es,_,Q,σ=>zia P true es Q σ
 | .bor es,_,Q,σ=>zia P false es Q σ
 | .cmp a ops es,_,Q,σ=>wpE P a (fun v σ₁=>zsk P ops es v Q σ₁) σ
 | _,w,Q,σ=>w (fun v σ₁=>zR σ₁.mem v fun b=>Q b σ₁) σ
noncomputable def zia (P:PC) (k:Bool):List Ex→(Bool→St→Prop)→St→Prop
 | [],Q,σ=>Q k σ
 | e::es,Q,σ=>wpT P e (wpE P e) (fun b σ₁=>if b=k then zia P k es Q σ₁ else Q (!k) σ₁) σ
end
theorem zor {o:Option (Option V)}{K:V→Prop} (h:match o with | some (some v)=>K v | _=>False): ∃v,o=some (some v)∧K v:=by
 cases o with
 | none=>exact h.elim
 | some o=>cases o with
  | none=>exact h.elim
  | some v=>exact⟨v,rfl,h⟩
theorem ztv {v:V}{K:List V→Prop} (h:match v with | .tup vs=>K vs | _=>False): ∃vs,v= .tup vs∧K vs:=by
 cases v<;>first | exact h.elim | exact⟨_,rfl,h⟩
noncomputable def zn4 (n:Nat) (i:Int):Option Nat:=seqIndex? i n
noncomputable def zrr (_m:Mem) (op:Operator) (v u:V) (Q:V→Prop):Prop:=match op with
 | .Add=>(match v with
  | .int a=>asI u fun b=>Q (.int (a+b))
  | .str a=>asS u fun b=>sma a.length∧sma b.length∧Q (.str (a++b))
  | _=>False)
 | .Sub=>zos v u fun a b=>Q (.int (a-b))
 | _=>False
noncomputable def zi6 (P:PC):Tg→V→(St→Prop)→St→Prop
 | .var i,v,Q,σ=>Q (σ.set i v)
 | .tup is,v,Q,σ=>match v with | .tup vs=>vs.length=is.length∧Q (σ.setAll is vs) | _=>False
 | .idx o i,v,Q,σ=>wpE P o (fun ov σ₁=>wpE P i (fun iv σ₂=> ∃a k vs j,ov= .obj a∧iv= .int k∧zr k∧σ₂.mem a=some (.list vs)∧zn4 vs.length k=some j∧
   Q {σ₂ with mem:=upd σ₂.mem a (.list (vs.set j v))}) σ₁) σ
 | .slc o lo hi,v,Q,σ=>wpE P o (fun ov σ₁=>wpE P lo (fun l σ₂=>wpE P hi (fun h σ₃=> ∃a b ia ib xs ys,ov= .obj a∧v= .obj b∧zhu l=some ia∧zhu h=some ib∧a≠b∧
   σ₃.mem a=some (.list xs)∧σ₃.mem b=some (.list ys)∧sma xs.length∧sma ys.length∧
   Q {σ₃ with mem:=upd σ₃.mem a (.list (xs.take (zfj xs.length ia)++ys++xs.drop (max (zfj xs.length ia) (zh5 xs.length ib))))}) σ₂) σ₁) σ
 | .attr o n,v,Q,σ=>wpE P o (fun ov σ₁=> ∃a d fs,ov= .obj a∧σ₁.mem a=some (.inst P.cls d)∧σ₁.mem d=some (.dict fs)∧fs.length≤100∧P.fld n=true∧
   Q {σ₁ with mem:=upd σ₁.mem d (.dict (zn5 n v fs))}) σ
noncomputable def zhz (P:PC):List Tg→V→(St→Prop)→St→Prop
 | [],_,Q,σ=>Q σ
 | t::ts,v,Q,σ=>zi6 P t v (fun σ₁=>zhz P ts v Q σ₁) σ
noncomputable def zdz (bind:V→(St→Prop)→St→Prop) (body:(Fl→St→Prop)→St→Prop) (g:Mem→Prop) (Q:Fl→St→Prop):List V→St→Prop
 | [],σ=>g σ.mem∧Q .next σ
 | v::vs,σ=>g σ.mem∧bind v (body fun fl σ₁=>match fl with
   | .next=>zdz bind body g Q vs σ₁
   | .cont=>zdz bind body g Q vs σ₁
   | .brk=>Q .next σ₁
   | .ret r=>Q (.ret r) σ₁) σ
noncomputable def zv9 (test:(Bool→St→Prop)→St→Prop) (body:(Fl→St→Prop)→St→Prop) (Q:Fl→St→Prop) (σ:St):Prop:=
 ∃I:Nat→St→Prop,(∃n,I n σ)∧∀n σ',I n σ'→test (fun b σ₁=>if b then body (fun fl σ₂=>match fl with
   | .next=> ∃k,k<n∧I k σ₂
   | .cont=> ∃k,k<n∧I k σ₂
   | .brk=>Q .next σ₂
   | .ret r=>Q (.ret r) σ₂) σ₁ else Q .next σ₁) σ'
mutual
noncomputable def wpS (P:PC):Sm→(Fl→St→Prop)→St→Prop
 | .expr e,Q,σ=>wpE P e (fun _ σ₁=>Q .next σ₁) σ
 | .assign ts e,Q,σ=>wpE P e (fun v σ₁=>zhz P ts v (fun σ₂=>Q .next σ₂) σ₁) σ
 | .aug i op e,Q,σ=>match σ.loc[i]? with | some (some v)=>wpE P e (fun u σ₁=>zrr σ₁.mem op v u fun r=>Q .next (σ₁.set i r)) σ | _=>False
 | .del o i,Q,σ=>wpE P o (fun ov σ₁=>wpE P i (fun iv σ₂=> ∃a k vs j,ov= .obj a∧iv= .int k∧zr k∧σ₂.mem a=some (.list vs)∧zn4 vs.length k=some j∧sma vs.length∧
   Q .next {σ₂ with mem:=upd σ₂.mem a (.list (vs.eraseIdx j))}) σ₁) σ
 | .ife c a b,Q,σ=>wpT P c (wpE P c) (fun t σ₁=>if t then zk P a Q σ₁ else zk P b Q σ₁) σ
 | .whl c b,Q,σ=>zv9 (wpT P c (wpE P c)) (zk P b) Q σ
 | .fr t it b,Q,σ=>wpE P it (fun v σ₁=>za5 σ₁.mem v fun vs g=>zdz (zi6 P t) (zk P b) g Q vs σ₁) σ
 | .ret e,Q,σ=>wpE P e (fun v σ₁=>Q (.ret v) σ₁) σ
 | .brk,Q,σ=>Q .brk σ
 | .junk,_,_=>False
noncomputable def zk (P:PC):List Sm→(Fl→St→Prop)→St→Prop
 | [],Q,σ=>Q .next σ
 | s::ss,Q,σ=>wpS P s (fun fl σ₁=>match fl with | .next=>zk P ss Q σ₁ | .brk=>Q .brk σ₁ | .cont=>Q .cont σ₁ | .ret r=>Q (.ret r) σ₁) σ
end
structure SC where
 vars:List (Str×Bool)
 names:List (Str×NameKind)
 fns:List String
 meths:List String
 cells:List Str
noncomputable def zyi (v:V) (c:Const):Bool:=match v with
 | .none=>c== .none
 | .bool b=>c== .bool b
 | .int i=>c== .int i
 | .flt x=>c== .float x
 | .str s=>c== .str (mkS s)
 | _=>false
noncomputable def SC.is (C:SC) (i:Nat) (x:Str):Bool:=match C.vars[i]? with | some (y,_)=>y==x | none=>false
noncomputable def SC.isW (C:SC) (i:Nat) (x:Str):Bool:=match C.vars[i]? with | some (y,r)=>y==x&&!r | none=>false
noncomputable def SC.glob (C:SC) (n:String) (x:Str):Bool:=Str.ofString n==x&&C.names.lookup x==some .globalImplicit&&!(x==Str.ofString "__debug__")
noncomputable def zb9 (e:Expr):Bool:=e.ctorIdx !=16
noncomputable def za3 (e:Expr):Bool:=e.ctorIdx !=22&&e.ctorIdx !=7
theorem zcf {c:Prop} [Decidable c] {f:c→Bool} (h:(if h:c then f h else false)=true): ∃i,f i=true:=by
 by_cases i:c
 ·rw[dif_pos i] at h;exact⟨i,h⟩
 ·rw[dif_neg i] at h;cases h
noncomputable def zvg (e:Expr) (K:Const→Bool):Bool:=if h:e.ctorIdx=19 then Expr.Constant.elim (motive_1:=fun _=>Bool) e h fun c _ _=>K c else false
theorem znb {e:Expr}{K:Const→Bool}{M:Expr→Prop} (h:zvg e K=true) (kk: ∀(c:Const) (k:Nat) (p:Pos),K c=true→M (.Constant c k p)):M e:=
 let ⟨i,q⟩:=zcf h
 Expr.Constant.elim (motive_1:=fun e=> ∀i,Expr.Constant.elim (motive_1:=fun _=>Bool) e i (fun c _ _=>K c)=true→M e) e i (fun c k p _ q=>kk c k p q) i q
noncomputable def zcw (e:Expr) (K:Str→Bool):Bool:=if h:e.ctorIdx=23 then Expr.Name.elim (motive_1:=fun _=>Bool) e h fun n _=>K n else false
theorem zeq {e:Expr}{K:Str→Bool}{M:Expr→Prop} (h:zcw e K=true) (kk: ∀(n:Str) (p:Pos),K n=true→M (.Name n p)):M e:=
 let ⟨i,q⟩:=zcf h
 Expr.Name.elim (motive_1:=fun e=> ∀i,Expr.Name.elim (motive_1:=fun _=>Bool) e i (fun n _=>K n)=true→M e) e i (fun n p _ q=>kk n p q) i q
noncomputable def z4m (e:Expr) (K:Expr→Operator→Expr→Bool):Bool:=if h:e.ctorIdx=2 then Expr.BinOp.elim (motive_1:=fun _=>Bool) e h fun l o r _=>K l o r else false
theorem zwg {e:Expr}{K:Expr→Operator→Expr→Bool}{M:Expr→Prop} (h:z4m e K=true) (kk: ∀(l:Expr) (o:Operator) (r:Expr) (p:Pos),K l o r=true→M (.BinOp l o r p)):M e:=
 let ⟨i,q⟩:=zcf h
 Expr.BinOp.elim (motive_1:=fun e=> ∀i,Expr.BinOp.elim (motive_1:=fun _=>Bool) e i (fun l o r _=>K l o r)=true→M e) e i (fun l o r p _ q=>kk l o r p q) i q
noncomputable def z70 (e:Expr) (K:UnaryOp→Expr→Bool):Bool:=if h:e.ctorIdx=3 then Expr.UnaryOp.elim (motive_1:=fun _=>Bool) e h fun o y _=>K o y else false
theorem zzy {e:Expr}{K:UnaryOp→Expr→Bool}{M:Expr→Prop} (h:z70 e K=true) (kk: ∀(o:UnaryOp) (y:Expr) (p:Pos),K o y=true→M (.UnaryOp o y p)):M e:=
 let ⟨i,q⟩:=zcf h
 Expr.UnaryOp.elim (motive_1:=fun e=> ∀i,Expr.UnaryOp.elim (motive_1:=fun _=>Bool) e i (fun o y _=>K o y)=true→M e) e i (fun o y p _ q=>kk o y p q) i q
noncomputable def zzp (e:Expr) (K:List Expr→Bool):Bool:=if h:e.ctorIdx=24 then Expr.List.elim (motive_1:=fun _=>Bool) e h fun xs _=>K xs else false
theorem zq2 {e:Expr}{K:List Expr→Bool}{M:Expr→Prop} (h:zzp e K=true) (kk: ∀(xs:List Expr) (p:Pos),K xs=true→M (.List xs p)):M e:=
 let ⟨i,q⟩:=zcf h
 Expr.List.elim (motive_1:=fun e=> ∀i,Expr.List.elim (motive_1:=fun _=>Bool) e i (fun xs _=>K xs)=true→M e) e i (fun xs p _ q=>kk xs p q) i q
noncomputable def isTup (e:Expr) (K:List Expr→Bool):Bool:=if h:e.ctorIdx=25 then Expr.Tuple.elim (motive_1:=fun _=>Bool) e h fun xs _ _=>K xs else false
theorem zlv {e:Expr}{K:List Expr→Bool}{M:Expr→Prop} (h:isTup e K=true) (kk: ∀(xs:List Expr) (k:Nat) (p:Pos),K xs=true→M (.Tuple xs k p)):M e:=
 let ⟨i,q⟩:=zcf h
 Expr.Tuple.elim (motive_1:=fun e=> ∀i,Expr.Tuple.elim (motive_1:=fun _=>Bool) e i (fun xs _ _=>K xs)=true→M e) e i (fun xs k p _ q=>kk xs k p q) i q
noncomputable def z4f (e:Expr) (K:Expr→List CmpOp→List Expr→Bool):Bool:=if h:e.ctorIdx=15 then Expr.Compare.elim (motive_1:=fun _=>Bool) e h fun l os cs _=>K l os cs else false
theorem z0x {e:Expr}{K:Expr→List CmpOp→List Expr→Bool}{M:Expr→Prop} (h:z4f e K=true) (kk: ∀(l:Expr) (os:List CmpOp) (cs:List Expr) (p:Pos),K l os cs=true→M (.Compare l os cs p)):M e:=
 let ⟨i,q⟩:=zcf h
 Expr.Compare.elim (motive_1:=fun e=> ∀i,Expr.Compare.elim (motive_1:=fun _=>Bool) e i (fun l os cs _=>K l os cs)=true→M e) e i (fun l os cs p _ q=>kk l os cs p q) i q
noncomputable def zv5 (e:Expr) (K:BoolOp→List Expr→Bool):Bool:=if h:e.ctorIdx=0 then Expr.BoolOp.elim (motive_1:=fun _=>Bool) e h fun o xs _=>K o xs else false
theorem zp5 {e:Expr}{K:BoolOp→List Expr→Bool}{M:Expr→Prop} (h:zv5 e K=true) (kk: ∀(o:BoolOp) (xs:List Expr) (p:Pos),K o xs=true→M (.BoolOp o xs p)):M e:=
 let ⟨i,q⟩:=zcf h
 Expr.BoolOp.elim (motive_1:=fun e=> ∀i,Expr.BoolOp.elim (motive_1:=fun _=>Bool) e i (fun o xs _=>K o xs)=true→M e) e i (fun o xs p _ q=>kk o xs p q) i q
noncomputable def zm0 (e:Expr) (K:Expr→Expr→Bool):Bool:=if h:e.ctorIdx=21 then Expr.Subscript.elim (motive_1:=fun _=>Bool) e h fun v s _=>K v s else false
theorem zhc {e:Expr}{K:Expr→Expr→Bool}{M:Expr→Prop} (h:zm0 e K=true) (kk: ∀(v:Expr) (s:Expr) (p:Pos),K v s=true→M (.Subscript v s p)):M e:=
 let ⟨i,q⟩:=zcf h
 Expr.Subscript.elim (motive_1:=fun e=> ∀i,Expr.Subscript.elim (motive_1:=fun _=>Bool) e i (fun v s _=>K v s)=true→M e) e i (fun v s p _ q=>kk v s p q) i q
noncomputable def zi3 (e:Expr) (K:Option Expr→Option Expr→Option Expr→Bool):Bool:=if h:e.ctorIdx=26 then Expr.Slice.elim (motive_1:=fun _=>Bool) e h fun l u s _=>K l u s else false
theorem zmk {e:Expr}{K:Option Expr→Option Expr→Option Expr→Bool}{M:Expr→Prop} (h:zi3 e K=true) (kk: ∀(l:Option Expr) (u:Option Expr) (s:Option Expr) (p:Pos),K l u s=true→M (.Slice l u s p)):M e:=
 let ⟨i,q⟩:=zcf h
 Expr.Slice.elim (motive_1:=fun e=> ∀i,Expr.Slice.elim (motive_1:=fun _=>Bool) e i (fun l u s _=>K l u s)=true→M e) e i (fun l u s p _ q=>kk l u s p q) i q
noncomputable def zjb (e:Expr) (K:Expr→Str→Pos→Bool):Bool:=if h:e.ctorIdx=20 then Expr.Attribute.elim (motive_1:=fun _=>Bool) e h fun v y p=>K v y p else false
theorem zil {e:Expr}{K:Expr→Str→Pos→Bool}{M:Expr→Prop} (h:zjb e K=true) (kk: ∀(v:Expr) (y:Str) (p:Pos),K v y p=true→M (.Attribute v y p)):M e:=
 let ⟨i,q⟩:=zcf h
 Expr.Attribute.elim (motive_1:=fun e=> ∀i,Expr.Attribute.elim (motive_1:=fun _=>Bool) e i (fun v y p=>K v y p)=true→M e) e i (fun v y p _ q=>kk v y p q) i q
noncomputable def zf7 (e:Expr) (K:Expr→List Expr→List Keyword→Pos→Bool):Bool:=if h:e.ctorIdx=16 then Expr.Call.elim (motive_1:=fun _=>Bool) e h fun f xs k p=>K f xs k p else false
theorem zld {e:Expr}{K:Expr→List Expr→List Keyword→Pos→Bool}{M:Expr→Prop} (h:zf7 e K=true) (kk: ∀(f:Expr) (xs:List Expr) (k:List Keyword) (p:Pos),K f xs k p=true→M (.Call f xs k p)):M e:=
 let ⟨i,q⟩:=zcf h
 Expr.Call.elim (motive_1:=fun e=> ∀i,Expr.Call.elim (motive_1:=fun _=>Bool) e i (fun f xs k p=>K f xs k p)=true→M e) e i (fun f xs k p _ q=>kk f xs k p q) i q
noncomputable def z9o (e:Expr) (K:Expr→List Comprehension→Scope→Bool):Bool:=if h:e.ctorIdx=8 then Expr.ListComp.elim (motive_1:=fun _=>Bool) e h fun elt gs sc _=>K elt gs sc else false
theorem z61 {e:Expr}{K:Expr→List Comprehension→Scope→Bool}{M:Expr→Prop} (h:z9o e K=true) (kk: ∀(elt:Expr) (gs:List Comprehension) (sc:Scope) (p:Pos),K elt gs sc=true→M (.ListComp elt gs sc p)):M e:=
 let ⟨i,q⟩:=zcf h
 Expr.ListComp.elim (motive_1:=fun e=> ∀i,Expr.ListComp.elim (motive_1:=fun _=>Bool) e i (fun elt gs sc _=>K elt gs sc)=true→M e) e i (fun elt gs sc p _ q=>kk elt gs sc p q) i q
noncomputable def z8b (gs:List Comprehension) (K:Expr→Expr→List Expr→Bool):Bool:=match gs with
 | []=>false
 | g::r=>r.isEmpty&&g.is_async==0&&K g.target g.iter g.ifs
theorem zyy {gs:List Comprehension}{K:Expr→Expr→List Expr→Bool}{M:List Comprehension→Prop} (h:z8b gs K=true) (k: ∀t i cs,K t i cs=true→M [⟨t,i,cs,0⟩]):M gs:=
 match gs,h with
 | ⟨t,i,cs,a⟩::r,h=>by
  obtain⟨h1,h⟩:=(Cc _ _).mp h
  obtain⟨h1,h2⟩:=(Cc _ _).mp h1
  obtain rfl:=List.isEmpty_iff.mp h1
  obtain rfl:a=0:=Bh.mp h2
  exact k t i cs h
theorem zb {a b:Bool} (h:(a&&b)=true):a=true∧b=true:=(Cc a b).mp h
noncomputable def zg4 (C:SC):List Nat→List Expr→Bool
 | [],xs=>xs.isEmpty
 | i::is,xs=>xs.head?.any fun e=>zcw e fun x=>C.isW i x&&zg4 C is xs.tail
noncomputable def zf5:List Nat→Bool
 | []=>true
 | i::is=>!is.contains i&&zf5 is
noncomputable def zjy (C:SC) (one:Bool) (is:List Nat) (x:Expr):Bool:=
 if one then(match is with | [i]=>zcw x fun n=>C.isW i n | _=>false) else isTup x fun xs=>zf5 is&&zg4 C is xs
noncomputable def zki:List Str→Bool
 | []=>true
 | x::xs=>!xs.contains x&&zki xs
noncomputable def zpz (names:List (Str×NameKind)):List Str:=names.filterMap fun p=>if p.2== .local&&!(p.1==Str.ofString ".0") then some p.1 else none
noncomputable def yK (names:List (Str×NameKind)):List Str:=names.filterMap fun p=>if p.2== .free then some p.1 else none
noncomputable def zci (C:SC) (sc:Scope):SC:=⟨(zpz sc.names).map (·,false)++(yK sc.names).map (·,true),sc.names.filter fun p=>p.2== .globalImplicit,C.fns,C.meths,yK sc.names⟩
noncomputable def znj (C:SC):List Nat→List Str→Bool
 | [],xs=>xs.isEmpty
 | i::is,xs=>xs.head?.any fun x=>C.is i x&&C.cells.contains x&&znj C is xs.tail
noncomputable def zkq (C:SC) (sc:Scope) (n:Nat) (caps:List Nat):Bool:=
 sc.kind== .function&&(zpz sc.names).length==n&&znj C caps (yK sc.names)&&zki (sc.names.map (·.1)) &&
 sc.names.all (fun p=>(p.2== .local||p.2== .free||p.2== .globalImplicit)&&!(p.1==Str.ofString "__debug__")&&!(p.1==Str.ofString "__classdict__"))
noncomputable def zf6:Ex→Bool
 | .lit v=>match v with
  | .none=>true
  | _=>false
 | _=>false
noncomputable def zx7 (n:Bool) (f:Expr→Bool) (x:Option Expr):Bool:=match x with
 | none=>n
 | some e=>f e
mutual
noncomputable def zy (C:SC):Ex→Expr→Bool
 | .lit v,x=>zvg x fun c=>zyi v c
 | .var i,x=>zcw x fun n=>C.is i n
 | .bin op a b,x=>z4m x fun l o r=>op==o&&(zy C a l&&zy C b r)
 | .neg a,x=>z70 x fun o y=>o== .USub&&zy C a y
 | .not a,x=>z70 x fun o y=>o== .Not&&zy C a y
 | .list es,x=>zzp x fun xs=>decide (xs.length<1000)&&zu C es xs
 | .tup es,x=>isTup x fun xs=>decide (xs.length<1000)&&zu C es xs
 | .cmp a ops es,x=>z4f x fun l os cs=>ops==os&&(zy C a l&&zu C es cs)
 | .band es,x=>zv5 x fun o xs=>o== .And&&zu C es xs
 | .bor es,x=>zv5 x fun o xs=>o== .Or&&zu C es xs
 | .idx a i,x=>zm0 x fun v s=>zy C a v&&zy C i s
 | .slc a lo hi st,x=>zm0 x fun v s=>zi3 s fun l u k=>zy C a v&&(zx7 (zf6 lo) (fun e=>zy C lo e) l&&(zx7 (zf6 hi) (fun e=>zy C hi e) u&&zx7 (zf6 st) (fun e=>zy C st e) k))
 | .attr o n,x=>zjb x fun v y _=>Str.ofString n==y&&(zb9 v&&zy C o v)
 | .bi b args,x=>zf7 x fun f xs k _=>zcw f fun f=>k.isEmpty&&(C.glob b.name f&&zu C args xs)
 | .call n args,x=>zf7 x fun f xs k _=>zcw f fun f=>k.isEmpty&&(C.fns.contains n&&(C.glob n f&&zu C args xs))
 | .me o m args,x=>zf7 x fun f xs k p=>zjb f fun v y q=>k.isEmpty&&(Str.ofString m.name==y&&(q.endLine==p.line&&(decide (xs.length<20)&&(zb9 v&&(zy C o v&&zu C args xs)))))
 | .imeth o n args,x=>C.meths.contains n&&zf7 x fun f xs k p=>zjb f fun v y q=>k.isEmpty&&(Str.ofString n==y&&(q.endLine==p.line&&(decide (xs.length<20)&&(zb9 v&&(zy C o v&&zu C args xs)))))
 | .lcall i args,x=>zf7 x fun f xs k _=>zcw f fun y=>k.isEmpty&&(C.is i y&&zu C args xs)
 | .comp elt one is it cs n caps,x=>z9o x fun e gs sc=>z8b gs fun t i ifs=>za3 i&&(zy C it i&&(zkq C sc n caps&&(zjy (zci C sc) one is t&&(zu (zci C sc) cs ifs&&zy (zci C sc) elt e))))
noncomputable def zu (C:SC):List Ex→List Expr→Bool
 | [],xs=>xs.isEmpty
 | a::as,xs=>xs.head?.any fun e=>za3 e&&zy C a e&&zu C as xs.tail
end
noncomputable def zn6 (C:SC) (a:Ex) (x:Option Expr):Bool:=zx7 (zf6 a) (fun e=>zy C a e) x
theorem yU {C:SC}{a:Ex}{as:List Ex}{xs:List Expr} (h:zu C (a::as) xs=true): ∃e es,xs=e::es∧za3 e=true∧zy C a e=true∧zu C as es=true:=by
 cases xs with
 | nil=>cases h
 | cons e es=>
  have h:(za3 e&&zy C a e&&zu C as es)=true:=h
  rw[Cc,Cc] at h
  exact⟨e,es,rfl,h.1.1,h.1.2,h.2⟩
theorem zbg {C:SC}{xs:List Expr} (h:zu C [] xs=true):xs=[]:=by
 cases xs with
 | nil=>rfl
 | cons=>cases h
section
variable {C:SC}{x:Expr}{M:Expr→Prop}
@[elab_as_elim] theorem z2p {op:Operator} {a b:Ex} (h:zy C (.bin op a b) x=true) (k: ∀l r p,zy C a l=true→zy C b r=true→M (.BinOp l op r p)):M x:=
 zwg (e:=x) (K:=fun l o r=>op==o&&(zy C a l&&zy C b r)) h fun l o r p q=>by
  obtain⟨q1,q2⟩:=zb q;cases Bh.mp q1;exact k l r p (zb q2).1 (zb q2).2
@[elab_as_elim] theorem zvy {a:Ex} (h:zy C (.neg a) x=true) (k: ∀y p,zy C a y=true→M (.UnaryOp .USub y p)):M x:=
 zzy (e:=x) (K:=fun o y=>o== .USub&&zy C a y) h fun o y p q=>by
  obtain⟨q1,q2⟩:=zb q;cases Bh.mp q1;exact k y p q2
@[elab_as_elim] theorem zsq {a:Ex} (h:zy C (.not a) x=true) (k: ∀y p,zy C a y=true→M (.UnaryOp .Not y p)):M x:=
 zzy (e:=x) (K:=fun o y=>o== .Not&&zy C a y) h fun o y p q=>by
  obtain⟨q1,q2⟩:=zb q;cases Bh.mp q1;exact k y p q2
@[elab_as_elim] theorem zx0 {es:List Ex} (h:zy C (.list es) x=true) (k: ∀xs p,xs.length<1000→zu C es xs=true→M (.List xs p)):M x:=
 zq2 (e:=x) (K:=fun xs=>decide (xs.length<1000)&&zu C es xs) h fun xs p q=>k xs p (of_decide_eq_true (zb q).1) (zb q).2
@[elab_as_elim] theorem z3p {es:List Ex} (h:zy C (.tup es) x=true) (k: ∀xs n p,xs.length<1000→zu C es xs=true→M (.Tuple xs n p)):M x:=
 zlv (e:=x) (K:=fun xs=>decide (xs.length<1000)&&zu C es xs) h fun xs n p q=>k xs n p (of_decide_eq_true (zb q).1) (zb q).2
@[elab_as_elim] theorem zub {a:Ex} {ops:List CmpOp} {es:List Ex} (h:zy C (.cmp a ops es) x=true) (k: ∀l cs p,zy C a l=true→zu C es cs=true→M (.Compare l ops cs p)):M x:=
 z0x (e:=x) (K:=fun l os cs=>ops==os&&(zy C a l&&zu C es cs)) h fun l os cs p q=>by
  obtain⟨q1,q2⟩:=zb q;cases Bh.mp q1;exact k l cs p (zb q2).1 (zb q2).2
@[elab_as_elim] theorem zql {es:List Ex} (h:zy C (.band es) x=true) (k: ∀xs p,zu C es xs=true→M (.BoolOp .And xs p)):M x:=
 zp5 (e:=x) (K:=fun o xs=>o== .And&&zu C es xs) h fun o y p q=>by
  obtain⟨q1,q2⟩:=zb q;cases Bh.mp q1;exact k y p q2
@[elab_as_elim] theorem zwe {es:List Ex} (h:zy C (.bor es) x=true) (k: ∀xs p,zu C es xs=true→M (.BoolOp .Or xs p)):M x:=
 zp5 (e:=x) (K:=fun o xs=>o== .Or&&zu C es xs) h fun o y p q=>by
  obtain⟨q1,q2⟩:=zb q;cases Bh.mp q1;exact k y p q2
@[elab_as_elim] theorem z2u {a i:Ex} (h:zy C (.idx a i) x=true) (k: ∀v s p,zy C a v=true→zy C i s=true→M (.Subscript v s p)):M x:=
 zhc (e:=x) (K:=fun v s=>zy C a v&&zy C i s) h fun v s p q=>k v s p (zb q).1 (zb q).2
@[elab_as_elim] theorem zwy {o:Ex} {n:String} (h:zy C (.attr o n) x=true) (k: ∀v p,zb9 v=true→zy C o v=true→M (.Attribute v (Str.ofString n) p)):M x:=
 zil (e:=x) (K:=fun v y _=>Str.ofString n==y&&(zb9 v&&zy C o v)) h fun v y p q=>by
  obtain⟨q1,q2⟩:=zb q;cases Bh.mp q1;exact k v p (zb q2).1 (zb q2).2
theorem zjv {K:Str→List Expr→Bool} (h:(zf7 x fun f xs k _=>zcw f fun f=>k.isEmpty&&K f xs)=true) (k: ∀n q xs p,K n xs=true→M (.Call (.Name n q) xs [] p)):M x:=
 zld (e:=x) (K:=fun f xs k _=>zcw f fun f=>k.isEmpty&&K f xs) h fun f xs kw p q=>
  zeq (e:=f) (K:=fun f=>kw.isEmpty&&K f xs) (M:=fun f=>M (.Call f xs kw p)) q fun n q' q2=>by have q3:=(zb q2).2;cases List.isEmpty_iff.mp (zb q2).1;exact k n q' xs p q3
theorem zmf {n:String}{o:Ex}{args:List Ex} (h:(zf7 x fun f xs k p=>zjb f fun v y q=>k.isEmpty&&(Str.ofString n==y&&(q.endLine==p.line&&(decide (xs.length<20)&&(zb9 v&&(zy C o v&&zu C args xs))))))=true)
  (k: ∀v q xs p,q.endLine=p.line→xs.length<20→zb9 v=true→zy C o v=true→zu C args xs=true→M (.Call (.Attribute v (Str.ofString n) q) xs [] p)):M x:=
 zld (e:=x) (K:=fun f xs k p=>zjb f fun v y q=>k.isEmpty&&(Str.ofString n==y&&(q.endLine==p.line&&(decide (xs.length<20)&&(zb9 v&&(zy C o v&&zu C args xs)))))) h fun f xs kw p q=>
  zil (e:=f) (K:=fun v y q=>kw.isEmpty&&(Str.ofString n==y&&(q.endLine==p.line&&(decide (xs.length<20)&&(zb9 v&&(zy C o v&&zu C args xs)))))) (M:=fun f=>M (.Call f xs kw p)) q fun v y q' q=>by
   obtain⟨q1,q⟩:=zb q
   obtain⟨q2,q⟩:=zb q
   obtain⟨q3,q⟩:=zb q
   obtain⟨q4,q⟩:=zb q
   obtain⟨q5,q⟩:=zb q
   obtain⟨q6,q7⟩:=zb q
   cases List.isEmpty_iff.mp q1;cases Bh.mp q2
   exact k v q' xs p (Bh.mp q3) (of_decide_eq_true q4) q5 q6 q7
end
theorem zep (a b:Tx):(mkS a++mkS b:Str)=mkS (a++b):=by
 show Str.append (mkS a) (mkS b)=_
 simp[Str.append,mkS]
theorem mkl (a:Tx):(mkS a).length=a.length:=by simp[Str.length]
theorem toNat_inj {a b:Char} (h:a.toNat=b.toNat):a=b:=by
 apply Char.ext;apply UInt32.toNat_inj.mp;exact h
theorem z1l {a b:Tx} (h:mkS a=mkS b):a=b:=by
 have h2:(a.map Char.toNat)=(b.map Char.toNat):=by
  have:=congrArg (fun x:Str=>x.cps.toList) h
  simpa using this
 exact(List.map_inj_right fun x y e=>toNat_inj e).mp h2
theorem zoa (a b:Tx):(mkS a==mkS b)=decide (a=b):=by
 by_cases h:a=b
 ·subst h;simp
 ·simp only[h,decide_false]
  exact beq_eq_false_iff_ne.mpr fun e=>h (z1l e)
theorem z54 (a:Tx):PyData.strOk (mkS a)=true:=by
 rw[PyData.strOk,Array.all_eq_true_iff_forall_mem]
 intro n hn
 have hn':n∈a.map Char.toNat:=by simpa [mkS] using hn
 obtain⟨c,_,rfl⟩:=List.mem_map.mp hn'
 have:=c.valid
 simp only[decide_eq_true_eq]
 have h:c.toNat=c.val.toNat:=rfl
 rw[h]
 rcases this with h1 | h1
 ·exact ntr ‹_› (by decide)
 ·exact zm 5766737310398129695998607913 rfl h1.2
section
variable {G:GS}{A:Around}{Γ:FE}{frz:Frz}{σ:St}{s:Shared}{Q:V→Mem→Prop}
noncomputable def PO (G:GS) (Γ:FE) (frz:Frz) (σ:St) (s:Shared) (Q:V→Mem→Prop):Value→Shared→Prop:=
 fun cv s'=> ∃v m,RV s'.heap cv v∧Rep G Γ frz {σ with mem:=m} s'∧TK s.heap s'.heap∧Q v m
theorem PO.pure (r:Rep G Γ frz σ s) {cv:Value}{v:V}{tk:Nat} (h:RV s.heap cv v) (q:Q v σ.mem):PO G Γ frz σ s Q cv {s with toks:=tk}:=
 ⟨v,σ.mem,h,r.toks tk,.refl _,q⟩
theorem PO.here (r:Rep G Γ frz σ s) {cv:Value}{v:V} (h:RV s.heap cv v) (q:Q v σ.mem):PO G Γ frz σ s Q cv s:=
 ⟨v,σ.mem,h,r,.refl _,q⟩
theorem za8 (h:Heap) (o:Obj): ∀b o',h.get? b=some o'→(h.push o).get? b=some o':=fun _ _ e=>Heap.get?_push_of_some o e
theorem PO.newList (r:Rep G Γ frz σ s) {arr:Array Value}{vs:List V}{tk:Nat} (h:RVs s.heap arr.toList vs) (q: ∀c,σ.mem c=none→Q (.obj c) (upd σ.mem c (.list vs))):
  PO G Γ frz σ s Q (.ref s.heap.objs.size) {s with heap:=s.heap.push {cls:= .type "list",data:= .seq arr},toks:=tk}:=by
 have k:=za8 s.heap {cls:= .type "list",data:= .seq arr}
 refine⟨.obj s.heap.objs.size,_,.obj _,r.fresh (Al _) k (.list (Heap.get?_push_size _ rfl) (h.tk (.of k))),.of k,q _ (r.none_of_ge (Al _)).1⟩
theorem PO.newTup (r:Rep G Γ frz σ s) {arr:Array Value}{vs:List V}{tk:Nat} (h:RVs s.heap arr.toList vs) (q:Q (.tup vs) σ.mem):
  PO G Γ frz σ s Q (.ref s.heap.objs.size) {s with heap:=s.heap.push {cls:= .type "tuple",data:= .seq arr},toks:=tk}:=by
 have k:=za8 s.heap {cls:= .type "tuple",data:= .seq arr}
 exact⟨.tup vs,_,.tup (Heap.get?_push_size _ rfl) (h.tk (.of k)),r.grow k,.of k,q⟩
theorem za4 {n:Nat} (h:sma n):n≤sizeLine:=by unfold sma at h;rw[sizeLine_eq];exact ntr ‹_› (by decide)
theorem zxo {a b:Int} (h:zr a):IntMulOk a b:=by
 refine IntMulOk.of_left ?_
 unfold zr at h
 unfold Builtin.Int.intBits
 have h2:a.natAbs<2 ^ 63:=by omega
 by_cases h0:a.natAbs=0
 ·have h1:a=0:=Int.natAbs_eq_zero.mp h0
  subst h1;decide
 ·have:=Nat.log2_lt (n:=a.natAbs) (k:=63) h0
  have h3:=this.mpr h2
  split<;>lia
theorem znh {α:Type} (x:α): ∀(n:Nat) (acc:Array α),(List.foldl (fun x1 x2=>x1++x2) acc (List.replicate n #[x])).toList=acc.toList++List.replicate n x
 | 0,acc=>by simp
 | n+1,acc=>by rw[List.replicate_succ,List.foldl_cons,znh x n];simp[List.replicate_succ]
theorem RVs.rep {h:Heap}{v:Value}{x:V} (a:RV h v x): ∀n:Nat,RVs h (List.replicate n v) (List.replicate n x)
 | 0=> .nil
 | n+1=> .cons a (RVs.rep a n)
theorem zwp {a b:Int} (h:0<b):a.fdiv b=a/b:=by rw[Int.fdiv_eq_ediv_of_nonneg];exact zrv 550158532641 rfl h
theorem zy0 {a b:Int} (h:0<b):a.fmod b=a%b:=by rw[Int.fmod_eq_emod_of_nonneg];exact zrv 550158532641 rfl h
theorem zhy {v u:V}{cv cu:Value}{K:Int→Int→Prop}{M:Value→Value→Prop} (h:zos v u K) (hv:RV s.heap cv v) (hu:RV s.heap cu u) (q: ∀a b t t',K a b→M (.int a t) (.int b t')):M cv cu:=by
 obtain⟨a,rfl,h1⟩:=zb3 h
 obtain⟨b,rfl,h2⟩:=zb3 h1
 exact hv.eI fun _=>hu.eI fun _=>q _ _ _ _ h2
theorem z8k {a b:Tx}{t u:Tok} (h:sma a.length∧sma b.length∧Q (.str (a++b)) σ.mem) (r:Rep G Γ frz σ s):
  wpAny (model G.prog G.w) A (binaryOp .Add (.str (mkS a) t) (.str (mkS b) u)) (PO G Γ frz σ s Q) NoE s:=
 add_str (fun t' tk=>by rw[zep];exact PO.pure r (.str _ _) h.2.2) (by rw[mkl,mkl,sizeLine_eq];exact ntr (Nat.add_le_add h.1 h.2.1) (by decide))
theorem b_cc {a b:Addr} (h: ∃xs ys,σ.mem a=some (.list xs)∧σ.mem b=some (.list ys)∧sma xs.length∧sma ys.length∧∀c,σ.mem c=none→Q (.obj c) (upd σ.mem c (.list (xs++ys)))) (r:Rep G Γ frz σ s):
  wpAny (model G.prog G.w) A (binaryOp .Add (.ref a) (.ref b)) (PO G Γ frz σ s Q) NoE s:=by
 refine bc fun z9=>?_
 obtain⟨xs,ys,e1,e2,h1,h2,h3⟩:=h
 refine z9 ?_
 refine bc fun z9=>?_
 obtain⟨p,_,g1,r1,l1⟩:=(r.hmem _ _ e1).l
 refine z9 ?_
 refine bc fun z9=>?_
 obtain⟨q,_,g2,r2,l2⟩:=(r.hmem _ _ e2).l
 refine z9 ?_
 exact concat_meets ⟨_,g1,rfl⟩ ⟨_,g2,rfl⟩ noFill_list_add seq_list_add F.slot_list_add F.entry_list_add (F.args_list_add_2 _ _)
   (list_addW _ _ _ _ _ _ _ _ _ _ (by rw[l1,l2,sizeLine_eq];exact ntr (Nat.add_le_add h1 h2) (by decide))) ⟨g1,g2,PO.newList r (by rw[Array.toList_append];exact r1.append r2) h3⟩
theorem z0n {h:Heap}{arr:Array Value}{x:V} (r:RVs h arr.toList [x]): ∃y,arr=#[y]∧RV h y x:=by
 obtain⟨y,e,q⟩: ∃y,arr.toList=[y]∧RV h y x:=RVs.e1 (N:=fun l=> ∃y,l=[y]∧RV h y x) r fun c q=>⟨c,rfl,q⟩
 exact⟨y,by rw[←Array.toArray_toList (xs:=arr),e],q⟩
theorem z8p {a:Addr}{k:Int}{u:Tok} (h: ∃x,σ.mem a=some (.list [x])∧zr k∧sma k.toNat∧∀c,σ.mem c=none→Q (.obj c) (upd σ.mem c (.list (List.replicate k.toNat x)))) (r:Rep G Γ frz σ s):
  wpAny (model G.prog G.w) A (binaryOp .Mult (.ref a) (.int k u)) (PO G Γ frz σ s Q) NoE s:=by
 obtain⟨x,e1,h1,h2,h3⟩:=h
 obtain⟨arr,_,g1,r1,_⟩:=(r.hmem _ _ e1).l
 obtain⟨y,rfl,ry⟩:=z0n r1
 unfold zr at h1
 unfold sma at h2
 refine wpAny_binaryOp_repeat_ref (T:="list") (U:="int") (by decide) ⟨_,g1,rfl⟩ (fun s'=>typeIs_int s' _ _) noFill_list_mul F.fills_int_mul F.slot_int_rmul repeat_list F.slot_int_index.lookup
  (call_meets F.slot_int_rmul (typeIs_int s _ _) F.entry_int_rmul (F.args_int_rmul_2 _ _) (int___rmul___int_list _ _ _ _ _)
   ⟨g1,rfl,⟨_,g1,rfl⟩,call_meets F.slot_list_mul ⟨_,g1,rfl⟩ F.entry_list_mul (F.args_list_mul_2 _ _)
    (AutoListH.list___mul___list_int_3 _ _ _ _ _ (by simp[Builtin.List.listFitsIndex];exact⟨zrv 51249990749070328998342548067711117079018253585441 rfl h1.1,zrv 8963876708962871231649266813126766511608500847137 rfl h1.2⟩) (by have:(#[y]:Array Value).size=1:=rfl;rw[this];lia) (by simp[Builtin.List.listTooLong,sizeLine];exact zbr 32610393493954286520319245559336534568 rfl h2 (Int.self_le_toNat _))) ⟨g1,?_⟩⟩)
 refine PO.newList r ?_ h3
 rw[if_neg (by simp),znh]
 exact RVs.rep ry _
theorem z8a {v u:V}{cv cu:Value} (h:z9h σ.mem v u Q) (r:Rep G Γ frz σ s) (hv:RV s.heap cv v) (hu:RV s.heap cu u):wpAny (model G.prog G.w) A (binaryOp .Add cv cu) (PO G Γ frz σ s Q) NoE s:=by
 cases v<;>first | exact False.elim h | skip
 ·cases u<;>first | exact False.elim h | skip
  exact hv.eB (hu.eB (add_bool (PO.pure r (.int _ _) h)))
 ·cases u<;>first | exact False.elim h | skip
  ·exact hv.eI fun _=>hu.eB (add_int_bool (PO.pure r (.int _ _) h))
  ·exact hv.eI fun _=>hu.eI fun _=>add_int (PO.pure r (.int _ _) h)
 ·obtain⟨b,rfl,h⟩:=zay h
  exact hv.eS fun _=>hu.eS fun _=>z8k h r
 ·obtain⟨b,rfl,h⟩:=zdq h
  exact hv.eO (hu.eO (b_cc h r))
theorem z8v {v u:V}{cv cu:Value} (h:z9j σ.mem v u Q) (r:Rep G Γ frz σ s) (hv:RV s.heap cv v) (hu:RV s.heap cu u):wpAny (model G.prog G.w) A (binaryOp .Mult cv cu) (PO G Γ frz σ s Q) NoE s:=by
 cases v<;>first | exact False.elim h | skip
 ·obtain⟨b,rfl,h⟩:=zb3 h
  exact hv.eI fun _=>hu.eI fun _=>PyProof.Rows.mul_int (PO.pure r (.int _ _) h.2) (zxo h.1)
 ·obtain⟨b,rfl,h⟩:=zb3 h
  exact hv.eO (hu.eI fun _=>z8p h r)
theorem z8z {a b:Int}{t u:Tok} (h:0<b∧Q (.int (a%b)) σ.mem) (r:Rep G Γ frz σ s):wpAny (model G.prog G.w) A (binaryOp .Mod (.int a t) (.int b u)) (PO G Γ frz σ s Q) NoE s:=
 mod_int' (Int.ne_of_gt h.1) (by rw[zy0 h.1];exact PO.pure r (.int _ _) h.2)
theorem z8d {a b:Int}{t u:Tok} (h:0<b∧zr b∧Q (.int (a/b)) σ.mem) (r:Rep G Γ frz σ s):wpAny (model G.prog G.w) A (binaryOp .FloorDiv (.int a t) (.int b u)) (PO G Γ frz σ s Q) NoE s:=
 floordiv_int (Int.ne_of_gt h.1) (by rw[zwp h.1];exact PO.pure r (.int _ _) h.2.2) (.inl (PyProof.noPylong_small (by have:=h.2.1;have:=h.1;unfold zr at *;omega)))
theorem zwt {a:Int} (h0:0≤a) (h8:a≤8):(decide (a<0) !=decide ((2:Int)<0))=false∧¬Float64.isInf (Float64.ofFrac false a.natAbs 2)=true:=by
 obtain⟨n,rfl⟩:=Int.eq_ofNat_of_zero_le h0
 have key: ∀n:Nat,n<9→(decide ((n:Int)<0) !=decide ((2:Int)<0))=false∧¬Float64.isInf (Float64.ofFrac false (n:Int).natAbs 2)=true:=by decide +kernel
 exact key n (Nat.lt_succ_of_le (Int.ofNat_le.mp h8))
theorem z4l {a b:Int}{t u:Tok} (h:0≤a∧a≤8∧b=2∧Q (.flt (Float64.ofFrac false a.natAbs 2)) σ.mem) (r:Rep G Γ frz σ s):wpAny (model G.prog G.w) A (binaryOp .Div (.int a t) (.int b u)) (PO G Γ frz σ s Q) NoE s:=by
 obtain⟨h0,h8,rfl,h⟩:=h
 obtain⟨e,f⟩:=zwt h0 h8
 refine AutoIntOps.truediv_2 (by decide) (by rw[e];exact f) ?_
 rw[e]
 exact PO.pure r (.flt _ _) h
theorem z8q {op:Operator}{v u:V}{cv cu:Value} (h:zge σ.mem op v u Q) (r:Rep G Γ frz σ s) (hv:RV s.heap cv v) (hu:RV s.heap cu u):
  wpAny (model G.prog G.w) A (binaryOp op cv cu) (PO G Γ frz σ s Q) NoE s:=by
 cases op<;>first | exact False.elim h | skip
 ·exact z8a h r hv hu
 ·exact zhy (M:=fun cv cu=>wpAny (model G.prog G.w) A (binaryOp .Sub cv cu) (PO G Γ frz σ s Q) NoE s) h hv hu fun _ _ _ _ h=>sub_int' (PO.pure r (.int _ _) h)
 ·exact z8v h r hv hu
 ·exact zhy (M:=fun cv cu=>wpAny (model G.prog G.w) A (binaryOp .Div cv cu) (PO G Γ frz σ s Q) NoE s) h hv hu fun _ _ _ _ h=>z4l h r
 ·exact zhy (M:=fun cv cu=>wpAny (model G.prog G.w) A (binaryOp .Mod cv cu) (PO G Γ frz σ s Q) NoE s) h hv hu fun _ _ _ _ h=>z8z h r
 ·exact zhy (M:=fun cv cu=>wpAny (model G.prog G.w) A (binaryOp .FloorDiv cv cu) (PO G Γ frz σ s Q) NoE s) h hv hu fun _ _ _ _ h=>z8d h r
theorem zn0 {m:Mem}{h:Heap}{n:Nat} (ih: ∀{cv:Value}{v:V}{d:PyData},rd n m v=some d→RV h cv v→∃as,Reads h cv d as) {cs:List Value}{vs:List V} (r:RVs h cs vs): ∀{ds:List PyData},vs.mapM (rd n m)=some ds→∃as,ReadsAll h cs ds as:=by
 refine RVs.ind (N:=fun cs vs=> ∀{ds:List PyData},vs.mapM (rd n m)=some ds→∃as,ReadsAll h cs ds as) ?_ ?_ r
 ·intro ds e;cases e;exact⟨_,.nil⟩
 ·intro v x vs xs a b hi ds e
  rw[List.mapM_cons] at e
  cases q:rd n m x with
  | none=>rw[q] at e;cases e
  | some d=>
   rw[q] at e
   cases q2:xs.mapM (rd n m) with
   | none=>rw[q2] at e;cases e
   | some ds'=>
    rw[q2] at e
    cases e
    obtain⟨as,p⟩:=ih q a
    obtain⟨bs,p2⟩:=hi q2
    exact⟨_,.cons p p2⟩
theorem zb6 {h:Heap}{cv:Value}{v:V}{d:PyData} (e:rd0 v=some d) (r:RV h cv v): ∃as,Reads h cv d as:=by
 cases v<;>first | cases e
 ·exact r.eN ⟨_,.none⟩
 ·exact r.eB ⟨_,.bool _⟩
 ·exact r.eI fun _=>⟨_,.int _ _⟩
 ·exact r.eS fun _=>⟨_,.str _ _⟩
theorem zri {m:Mem}{a:Addr}{vs:List V} (e:listAt m a=some vs):m a=some (.list vs):=by
 obtain⟨o,e1,e2⟩:=Option.bind_eq_some_iff.mp e
 cases o<;>cases e2
 exact e1
theorem zzz {n:Nat}{m:Mem}{a:Addr}{vs:List V} (h:m a=some (.list vs)):rd (n+1) m (.obj a)=(vs.mapM (rd n m)).map .list:=by
 show((m a).bind _).bind _=_
 rw[h];rfl
theorem zex {m:Mem}{h:Heap} (hm: ∀a o,m a=some o→RO h a o): ∀(n:Nat) {cv:Value}{v:V}{d:PyData},rd n m v=some d→RV h cv v→∃as,Reads h cv d as
 | 0,_,_,_,e,r=>zb6 e r
 | n+1,_,.tup _,_,e,r=>by
  obtain⟨ds,q,rfl⟩:=Bn.mp e
  exact r.eT fun _ _ _ g rs=>let ⟨as,p⟩:=zn0 (zex hm n) rs q;⟨as,.tuple g rfl rfl p⟩
 | n+1,_,.obj _,_,e,r=>by
  obtain⟨vs,e1,e⟩:=Option.bind_eq_some_iff.mp e
  obtain⟨ds,q,rfl⟩:=Bn.mp e
  obtain⟨_,_,g,rs,_⟩:=(hm _ _ (zri e1)).l
  exact r.eO (let ⟨as,p⟩:=zn0 (zex hm n) rs q;⟨_,.list g rfl rfl p⟩)
 | n+1,_,.none,_,e,r=>zb6 (v:= .none) e r
 | n+1,_,.bool _,_,e,r=>zb6 (v:= .bool _) e r
 | n+1,_,.int _,_,e,r=>zb6 (v:= .int _) e r
 | n+1,_,.str _,_,e,r=>zb6 (v:= .str _) e r
 | n+1,_,.flt _,_,e,r=>zb6 (v:= .flt _) e r
 | n+1,_,.rng ..,_,e,r=>zb6 (v:= .rng _ _ _) e r
theorem zgh {v:V}{d:PyData} (e:rd0 v=some d):d.canLay0=true∧d.depth=0:=by
 cases v<;>first | cases e
 ·exact⟨rfl,rfl⟩
 ·exact⟨rfl,rfl⟩
 ·exact⟨rfl,rfl⟩
 ·exact⟨z54 _,rfl⟩
theorem zk3 {n:Nat}{v:V}{d:PyData} (e:rd0 v=some d):d.canLay0=true∧d.depth≤n:=⟨(zgh e).1,ntr (Nat.le_of_eq (zgh e).2) (Bq _)⟩
theorem ziu {m:Mem}{n:Nat} (ih: ∀{v:V}{d:PyData},rd n m v=some d→d.canLay0=true∧d.depth≤n): ∀(vs:List V) {ds:List PyData},vs.mapM (rd n m)=some ds→PyData.canLayAll0 ds=true∧PyData.depthAll ds≤n
 | [],ds,e=>by cases e;exact⟨rfl,Bq _⟩
 | v::vs,ds,e=>by
  rw[List.mapM_cons] at e
  obtain⟨d,e1,e⟩:=Option.bind_eq_some_iff.mp e
  obtain⟨ds',e2,e⟩:=Option.bind_eq_some_iff.mp e
  cases e
  have p:=ih e1
  have q:=ziu ih vs e2
  exact⟨(Cc _ _).mpr ⟨p.1,q.1⟩,Nat.max_le.mpr ⟨p.2,q.2⟩⟩
theorem zew {m:Mem}: ∀(n:Nat) {v:V}{d:PyData},rd n m v=some d→d.canLay0=true∧d.depth≤n
 | 0,_,_,e=>⟨(zgh e).1,Nat.le_of_eq (zgh e).2⟩
 | n+1,.tup vs,_,e=>by
  obtain⟨ds,q,rfl⟩:=Bn.mp e
  have p:=ziu (zew n) vs q
  exact⟨p.1,Be p.2⟩
 | n+1,.obj a,_,e=>by
  obtain⟨vs,e1,e⟩:=Option.bind_eq_some_iff.mp e
  obtain⟨ds,q,rfl⟩:=Bn.mp e
  have p:=ziu (zew n) vs q
  exact⟨p.1,Be p.2⟩
 | n+1,.none,_,e=>zk3 (v:= .none) e
 | n+1,.bool _,_,e=>zk3 (v:= .bool _) e
 | n+1,.int _,_,e=>zk3 (v:= .int _) e
 | n+1,.str _,_,e=>zk3 (v:= .str _) e
 | n+1,.flt x,_,e=>zk3 (v:= .flt x) e
 | n+1,.rng x y z,_,e=>zk3 (v:= .rng x y z) e
theorem zgf {m:Mem}{v:V}{d:PyData} (e:rd 8 m v=some d):SeqAt.shaped d=true:=by
 have:=zew 8 e
 unfold SeqAt.shaped
 rw[this.1,Bool.true_and]
 exact Af (ntr this.2 (by decide))
noncomputable def PQ (G:GS) (Γ:FE) (frz:Frz) (σ:St) (s:Shared) (Q:Bool→Prop):Value→Shared→Prop:=
 fun cv s'=> ∃b,cv= .bool b∧Rep G Γ frz σ s'∧TK s.heap s'.heap∧Q b
noncomputable def PT (G:GS) (Γ:FE) (frz:Frz) (σ:St) (s:Shared) (Q:Bool→Prop):Bool→Shared→Prop:=
 fun b s'=>Rep G Γ frz σ s'∧TK s.heap s'.heap∧Q b
noncomputable def zpg (A:Around):Prop:=A.units+64<cLine
theorem z5x {v u:V}{cv cu:Value}{K:Bool→Prop}{ne:Bool}{Q:Bool→Prop} (hu':zpg A) (h:zvz σ.mem v u fun t=>Q (if ne then !t else t)) (r:Rep G Γ frz σ s) (hv:RV s.heap cv v) (hu:RV s.heap cu u):
  wpAny (model G.prog G.w) A (compareOp (if ne then .NotEq else .Eq) cv cu) (PQ G Γ frz σ s Q) NoE s:=by
 obtain⟨d,e,h1,h2,h3⟩:=h
 obtain⟨as,ra⟩:=zex r.hmem 8 h1 hv
 obtain⟨bs,rb⟩:=zex r.hmem 8 h2 hu
 cases ne with
 | false=>exact eq_dataH ra rb (zgf h1) (zgf h2) hu' ⟨_,rfl,r,.refl _,h3⟩
 | true=>exact ne_dataH ra rb (zgf h1) (zgf h2) hu' ⟨_,rfl,r,.refl _,h3⟩
theorem znk {m:Mem}{a b:V}{K:Bool→Prop} (h:zuv m a b K):(∃x y,a= .int x∧b= .int y∧K (decide (x=y)))∨(∃x y,a= .str x∧b= .str y∧K (decide (x=y)))∨zvz m a b K:=by
 cases a<;>first
  | exact .inr (.inr h)
  | (cases b<;>first | exact .inr (.inr h) | exact .inl ⟨_,_,rfl,rfl,h⟩ | exact .inr (.inl ⟨_,_,rfl,rfl,h⟩))
theorem zun {ds:List PyData}{d:PyData} (hu':zpg A) (h:d.depth≤7):A.units+1+min (PyData.depthAll ds) d.depth<cLine:=by
 have:=Nat.min_le_right (PyData.depthAll ds) d.depth
 unfold zpg at hu';exact zT 97786533242336846280915888571932480553 rfl hu' h this
theorem z9q {v u:V}{cv cu:Value}{nt:Bool}{Q:Bool→Prop} (hu':zpg A) (h:zys σ.mem v u fun t=>Q (if nt then !t else t)) (r:Rep G Γ frz σ s) (hv:RV s.heap cv v) (hu:RV s.heap cu u):
  wpAny (model G.prog G.w) A (compareOp (if nt then .NotIn else .In) cv cu) (PQ G Γ frz σ s Q) NoE s:=by
 cases u with
 | obj l=>
  obtain⟨vs,d,ds,hl,_,h1,h2,h3⟩:=h
  have h4:rd 8 σ.mem (.obj l)=some (.list ds):=by rw[zzz hl,h2];rfl
  obtain⟨as,ra⟩:=zex r.hmem 7 h1 hv
  obtain⟨bs,rb⟩:=zex r.hmem 8 h4 hu
  have s1:=zew 7 h1
  cases nt with
  | false=>exact SeqAt.in_list_reads rb ra (zew 8 h4).1 s1.1 (zun hu' s1.2) ⟨_,rfl,r,.refl _,h3⟩
  | true=>exact SeqAt.notIn_list_reads rb ra (zew 8 h4).1 s1.1 (zun hu' s1.2) ⟨_,rfl,r,.refl _,h3⟩
 | _=>exact h.elim
theorem PQ.of {Q:Bool→Prop} (r:Rep G Γ frz σ s) {b:Bool} (h:Q b):PQ G Γ frz σ s Q (.bool b) s:=⟨b,rfl,r,.refl _,h⟩
theorem z9d {v u:V}{cv cu:Value}{Q:Bool→Prop} (hu':zpg A) (h:zuv σ.mem v u Q) (r:Rep G Γ frz σ s) (hv:RV s.heap cv v) (hu:RV s.heap cu u):
  wpAny (model G.prog G.w) A (compareOp .Eq cv cu) (PQ G Γ frz σ s Q) NoE s:=by
 rcases znk h with ⟨x,y,rfl,rfl,h⟩ | ⟨x,y,rfl,rfl,h⟩ | h
 ·exact hv.eI fun _=>hu.eI fun _=>eq_int (.of r h)
 ·exact hv.eS fun _=>hu.eS fun _=>eq_str (.of r ((zoa _ _).symm▸h))
 ·exact z5x (ne:=false) (K:=Q) hu' h r hv hu
theorem z78 {v u:V}{cv cu:Value}{Q:Bool→Prop} (hu':zpg A) (h:zuv σ.mem v u fun t=>Q (!t)) (r:Rep G Γ frz σ s) (hv:RV s.heap cv v) (hu:RV s.heap cu u):
  wpAny (model G.prog G.w) A (compareOp .NotEq cv cu) (PQ G Γ frz σ s Q) NoE s:=by
 rcases znk (K:=fun t=>Q (!t)) h with ⟨x,y,rfl,rfl,h⟩ | ⟨x,y,rfl,rfl,h⟩ | h
 ·exact hv.eI fun _=>hu.eI fun _=>ne_int (.of r h)
 ·exact hv.eS fun _=>hu.eS fun _=>ne_str (.of r (by rw[bne,zoa];exact h))
 ·exact z5x (ne:=true) (K:=Q) hu' h r hv hu
theorem z2h {v u:V}{K:Bool→Prop} (h:ltV v u K):(∃x y,v= .int x∧u= .flt y∧K (Float64.cmpInt y x==some .gt))∨zos v u fun x y=>K (decide (x<y)):=by
 cases u with
 | flt y=>obtain⟨x,rfl,h⟩:=zb3 h;exact .inl ⟨x,y,rfl,rfl,h⟩
 | _=>exact .inr h
theorem z7q {v u:V}{cv cu:Value}{Q:Bool→Prop} (h:ltV v u Q) (r:Rep G Γ frz σ s) (hv:RV s.heap cv v) (hu:RV s.heap cu u):
  wpAny (model G.prog G.w) A (compareOp .Lt cv cu) (PQ G Γ frz σ s Q) NoE s:=by
 rcases z2h h with ⟨x,y,rfl,rfl,h⟩ | h
 ·exact hv.eI fun _=>hu.eF fun _=>lt_if (.of r h)
 ·exact zhy (M:=fun cv cu=>wpAny (model G.prog G.w) A (compareOp .Lt cv cu) (PQ G Γ frz σ s Q) NoE s) h hv hu fun _ _ _ _ h=>lt_int (.of r h)
theorem z3i {op:CmpOp}{v u:V}{cv cu:Value}{Q:Bool→Prop} (hu':zpg A) (h:zdw σ.mem op v u Q) (r:Rep G Γ frz σ s) (hv:RV s.heap cv v) (hu:RV s.heap cu u):
  wpAny (model G.prog G.w) A (compareOp op cv cu) (PQ G Γ frz σ s Q) NoE s:=
 match op,h with
 | .Eq,h=>z9d hu' h r hv hu
 | .NotEq,h=>z78 hu' h r hv hu
 | .Lt,h=>z7q h r hv hu
 | .LtE,h=>zhy (M:=fun cv cu=>wpAny (model G.prog G.w) A (compareOp .LtE cv cu) (PQ G Γ frz σ s Q) NoE s) h hv hu fun _ _ _ _ h=>le_int (.of r h)
 | .Gt,h=>zhy (M:=fun cv cu=>wpAny (model G.prog G.w) A (compareOp .Gt cv cu) (PQ G Γ frz σ s Q) NoE s) h hv hu fun _ _ _ _ h=>gt_int (.of r h)
 | .GtE,h=>zhy (M:=fun cv cu=>wpAny (model G.prog G.w) A (compareOp .GtE cv cu) (PQ G Γ frz σ s Q) NoE s) h hv hu fun _ _ _ _ h=>ge_int (.of r h)
 | .Is,h=>h.elim
 | .IsNot,h=>h.elim
 | .In,h=>z9q (nt:=false) hu' h r hv hu
 | .NotIn,h=>z9q (nt:=true) hu' h r hv hu
theorem zg1 {n:Nat} (h:sma n):(n:Int)<2 ^ 63:=by unfold sma at h;lia
theorem zkr {arr:Array Value}{vs:List V} (e:arr.size=vs.length):arr.isEmpty=vs.isEmpty:=by
 unfold Array.isEmpty
 cases vs with
 | nil=>simp at e;simp[e]
 | cons v vs=>simp at e;simp[e]
theorem z6g {α:Type} (x:List α):((x.length:Int) !=0)=!x.isEmpty:=by
 cases x with
 | nil=>rfl
 | cons a r=>simp only[List.length_cons,List.isEmpty_cons,Bool.not_false,bne_iff_ne,ne_eq];grind
theorem zot {v:V}{cv:Value}{Q:Bool→Prop} (h:zR σ.mem v Q) (r:Rep G Γ frz σ s) (hv:RV s.heap cv v):
  wpAny (model G.prog G.w) A (truthy cv) (PT G Γ frz σ s Q) NoE s:=by
 cases v<;>first | exact False.elim h | skip
 ·exact hv.eN (truthy_none ⟨r,.refl _,h⟩)
 ·exact hv.eB (wpAny_truthy_bool ⟨r,.refl _,h⟩)
 ·exact hv.eI fun _=>PyProof.Rows.truthy_int ⟨r,.refl _,h⟩
 ·exact hv.eS fun _=>P.truthy_str (by rw[mkl];exact Int.not_le.mpr (zg1 h.1)) ⟨r.toks _,.refl _,by rw[mkl,z6g];exact h.2⟩
 ·exact hv.eT fun _ _ _ g rs=>have e:=rs.length.symm.trans (Bx ..);truthy_tuple ⟨_,g,rfl,_,rfl⟩ (by rw[←e];exact zg1 h.1) ⟨r.toks _,.refl _,by rw[zkr e.symm];exact h.2⟩
 ·refine bc fun z9=>?_
  obtain⟨vs,h0,h1,h2⟩:=h
  refine z9 ?_
  refine bc fun z9=>?_
  obtain⟨_,_,g,rs,e⟩:=(r.hmem _ _ h0).l
  refine z9 ?_
  exact hv.eO (wpAny_truthy_list ⟨_,g,rfl,_,rfl⟩ (by rw[e];exact zg1 h1) ⟨r.toks _,.refl _,by rw[zkr e];exact h2⟩)
theorem zns {prog:Program}{w:World}{A:Around}{E:Value→Shared→Prop}{s:Shared}{value slice:Expr}{o i:Value}{T id:String}{Q:Value→Shared→Prop} (hT:s.TypeIs o T)
  (hl:typeLookup (.type T) "__getitem__"=pure (some (.builtin id))) (h:wpAny (model prog w) A (getItem o i) Q E s):
  wpAny (model prog w) A (subscriptTail value slice o i) Q E s:=by
 unfold subscriptTail
 refine Ac ?_
 rw[getitemInPython_of_ne hT.not_modules]
 refine Ac (wpAny_specialOf hT hl ?_)
 have fin: ∃ops,subscripted slice false o i=operate ops (getItem o i):=by
  cases slice<;>first | exact⟨_,rfl⟩ | skip
  rename_i st _
  cases st<;>exact⟨_,rfl⟩
 obtain⟨ops,e⟩:=fin
 refine Aj ?_
 rw[e]
 exact Ac (wpAny_operating (Bu h (fun r s₃ h₃=>Ac (wpAny_letTemporaryGo (Aj h₃))) fun _ _ x=>x))
theorem zin {k:Int} (h:zr k):Builtin.List.listFitsIndex k=true:=by
 unfold zr at h
 unfold Builtin.List.listFitsIndex
 simp only[Cc,decide_eq_true_eq]
 lia
theorem zfn {k:Int}{n j:Nat} (h:seqIndex? k n=some j):j<n∧(0≤k→j=k.toNat):=by
 unfold seqIndex? at h
 dsimp only at h
 by_cases h0:k<0
 ·rw[if_pos h0] at h
  split at h
  ·rename_i c
   have:=Option.some.inj h
   simp only[Cc,decide_eq_true_eq] at c
   lia
  ·exact(Am _ h.symm).elim
 ·rw[if_neg h0] at h
  split at h
  ·rename_i c
   have:=Option.some.inj h
   simp only[Cc,decide_eq_true_eq] at c
   (clear h0;omega)
  ·exact(Am _ h.symm).elim
theorem zh8 {prog:Program}{w:World}{A:Around}{E:Value→Shared→Prop}{s:Shared}{l:Addr}{items:Array Value}{k:Int}{t:Tok}{j:Nat}{x:Value}{Q:Value→Shared→Prop} (hl:s.heap.IsList l items)
  (hk:zr k) (hj:seqIndex? k items.size=some j) (hx:items[j]? =some x) (h:Q x s):wpAny (model prog w) A (getItem (.ref l) (.int k t)) Q E s:=by
 by_cases h0:0≤k
 ·have:=(zfn hj).2 h0
  subst this
  exact wpAny_getItem_list hl h0 (by unfold zr at hk;lia) hx h
 ·obtain⟨o,ho,hc,ne,hd⟩:=id hl
  unfold getItem
  try with_reducible refine Bt ?_
  first | refine Ac (Aj ?_) | skip
  refine Ac (wpAny_sequenceKey hl.typeIs (by decide) ?_)
  refine Ac (wpAny_callSpecial?_slot (name:=Str.ofString "__getitem__") hl.typeIs slot_list_getitem
   (wpAny_call_entry slot_list_getitem hl.typeIs entry_list_getitem ?_ (args_list_getitem _ _)))
  show wpAny _ _ (Builtin.List.listSubscript? (.int k t) >>=_) _ _ s
  refine Ac (wpAny_listSubscript_int (zin hk) ?_)
  obtain⟨m,rfl⟩: ∃m:Nat,k=Int.negSucc m:=⟨(-k-1).toNat,by grind⟩
  show wpAny _ _ ((Builtin.List.listItems (.ref l) >>=fun xs=>pure ((seqIndex? (Int.negSucc m) xs.size).bind fun j=>xs[j]?.map (j,·))) >>=_) _ _ s
  refine Ac (Ac (wpAny_listItems ho hd (Aj ?_)))
  rw[hj]
  simp only[Option.bind_some,hx,Option.map_some]
  first
   | exact Ac (Aj (Aj ⟨x,rfl,Aj h⟩))
   | exact Aj ⟨x,rfl,Aj h⟩
theorem z3m {α β:Type} (f:α→β) {xs:List α}{arr:Array β} (h:arr.toList=xs.map f) {j:Nat}{x:α} (e:xs[j]? =some x):arr[j]? =some (f x):=by
 rw[←Array.getElem?_toList,h,Bm,e];rfl
theorem zj0 {α:Type}{xs:List α}{k:Int}{c:α} (e:zK xs k=some c): ∃j,seqIndex? k xs.length=some j∧xs[j]? =some c:=Option.bind_eq_some_iff.mp e
theorem z5i {h:Heap}{arr:Array Value}{vs:List V} (rs:RVs h arr.toList vs) {k:Int}{x:V} (e:zK vs k=some x): ∃j cx,seqIndex? k arr.size=some j∧arr[j]? =some cx∧RV h cx x:=by
 obtain⟨j,e1,e2⟩:=zj0 e
 obtain⟨cx,e3,e4⟩:=rs.get e2
 have l:=rs.length
 rw[Bx] at l
 exact⟨j,cx,by rw[l];exact e1,by rw[←Array.getElem?_toList];exact e3,e4⟩
theorem z82 {v u:V}{cv cu:Value}{value slice:Expr}{Q:V→Prop} (h:zj9 σ.mem v u Q) (r:Rep G Γ frz σ s) (hv:RV s.heap cv v) (hu:RV s.heap cu u):
  wpAny (model G.prog G.w) A (subscriptTail value slice cv cu) (PO G Γ frz σ s fun r m=>m=σ.mem∧Q r) NoE s:=by
 obtain⟨k,rfl,h⟩:=zb3 h
 cases v<;>first | exact False.elim h | skip
 ·obtain⟨ht,c,e,q⟩:=h
  obtain⟨j,e1,e2⟩:=zj0 e
  refine hv.eS fun _=>hu.eI fun _=>zns (typeIs_str s _ _) F.slot_str_getitem.lookup (P.getItem_str (c:=c.toNat) ?_ ?_ ⟨.str [c],σ.mem,.str [c] _,r.toks _,.refl _,rfl,q⟩)
  ·have:=ht.1;have:=ht.2
   rw[Bool.or_eq_false_iff,decide_eq_false_iff_not,decide_eq_false_iff_not];lia
  ·rw[mkl,e1];exact z3m Char.toNat (List.toList_toArray) e2
 ·obtain⟨ht,x,e,q⟩:=h
  refine hv.eT fun _ _ _ g rs=>hu.eI fun _=>?_
  obtain⟨j,cx,e1,e3,e4⟩:=z5i rs e
  exact zns ⟨_,g,rfl⟩ F.slot_tuple_getitem.lookup (PyProof.Rows.getItem_tuple (j:=j) (x:=cx) ⟨_,g,rfl,_,rfl⟩ (by have:=ht.1;lia) (by have:=ht.2;lia) e1 e3 ⟨x,σ.mem,e4,r,.refl _,rfl,q⟩)
 ·obtain⟨ht,vs,x,e0,e,q⟩:=h
  obtain⟨_,_,g,rs,_⟩:=(r.hmem _ _ e0).l
  obtain⟨j,cx,e1,e3,e4⟩:=z5i rs e
  exact hv.eO (hu.eI fun _=>zns ⟨_,g,rfl⟩ list_getitem_lookup (zh8 (j:=j) (x:=cx) ⟨_,g,rfl,_,rfl⟩ ht e1 e3 ⟨x,σ.mem,e4,r,.refl _,rfl,q⟩))
theorem zo0 {α:Type} (xs:Array α) (lo hi:Option Int):(Builtin.Str.strSliceIndices lo hi 1 xs.size).filterMap (xs[·]?)=zcd xs.toList lo hi:=by
 have e:Builtin.Str.strSliceIndices lo hi 1 xs.size=sliceRange (sliceBounds lo hi none xs.size).1 (sliceBounds lo hi none xs.size).2.1 (sliceBounds lo hi none xs.size).2.2:=by
  cases lo<;>cases hi<;>rfl
 rw[e,sliceBounds_plain]
 simp only[sliceRange_one,pick_run]
 unfold zcd zfj zh5
 simp only[Bx]
 rfl
theorem zxi {α β:Type} (f:α→β) (xs:List α) (lo hi:Option Int):zcd (xs.map f) lo hi=(zcd xs lo hi).map f:=by
 unfold zcd;simp
theorem zlp {α:Type} (xs:List α) (lo hi:Option Int):(zcd xs lo hi).length≤xs.length:=by
 unfold zcd;simp;exact zj 42121604987949220392 rfl (Nat.sub_le _ _) (Nat.min_le_right _ _)
theorem zu2 {α:Type} (xs:List α) (lo hi:Option Int) (h:(zcd xs lo hi).length=xs.length):zcd xs lo hi=xs:=by
 unfold zcd at h ⊢
 rw[An,Ap] at h
 generalize zfj xs.length lo=x at *
 generalize zh5 xs.length hi=y at *
 have a:=Nat.min_le_left (y-x) (xs.length-x)
 have b:=Nat.min_le_right (y-x) (xs.length-x)
 rw[h] at a b
 by_cases h0:xs=[]
 ·subst h0;rw[List.drop_nil,List.take_nil]
 ·have p:=Bl.mpr h0
  have hx:x=0:=by clear a h;lia
  subst hx
  rw[List.drop_zero,Bd a]
theorem z3a (n:Nat) (i:Int):z0f n i≤n:=by
 have:=clipAt_cast n i
 unfold z0f;omega
theorem z1g (n:Nat) (hi:Option Int):zh5 n hi≤n:=by
 cases hi with
 | none=>exact Al _
 | some i=>exact z3a n i
theorem zvx {α:Type} (lo hi:Option Int) (xs:List α):(Builtin.Str.strSliceIndices lo hi 1 xs.length).length=(zcd xs lo hi).length:=by
 have e:Builtin.Str.strSliceIndices lo hi 1 xs.length=sliceRange (sliceBounds lo hi none xs.length).1 (sliceBounds lo hi none xs.length).2.1 (sliceBounds lo hi none xs.length).2.2:=by
  cases lo<;>cases hi<;>rfl
 rw[e,sliceBounds_plain]
 simp only[sliceRange_one,Ar,List.length_range]
 unfold zcd
 rw[An,Ap]
 have h1:=z1g xs.length hi
 show zh5 xs.length hi-zfj xs.length lo=_
 exact(Aw (Nat.sub_le_sub_right h1 _)).symm
theorem zcc {h:Heap}{v:V}{cv:Value}{a:Option Int} (e:zhu v=some a) (r:RV h cv v): ∃p:Option (Int×Tok),cv=partValue p∧p.map (·.1)=a∧IsPart cv a:=by
 cases v<;>cases e
 ·exact r.eN ⟨none,rfl,rfl,.none⟩
 ·exact r.eI fun _=>⟨some (_,_),rfl,rfl,.int _ _⟩
theorem zlg {v:V}{K:Option Int→Prop} (h:slK v K): ∃a,zhu v=some a∧K a:=by
 cases v<;>first | exact False.elim h | exact⟨_,rfl,h⟩
theorem z1f {v:V}{K:Option Int→Prop} (h:stK v K):v= .none∧K none:=by
 cases v<;>first | exact False.elim h | exact⟨rfl,h⟩
noncomputable abbrev zjm (l u st:Value):Obj:={cls:= .type "slice",data:= .fields #[l,u,st]}
theorem z0u {h:Heap}{arr:Array Value}{vs:List V} (rs:RVs h arr.toList vs) (e:arr.size=vs.length) (a b:Option Int):RVs h (slicePick arr a b none).toList (z49 vs a b none):=by
 rw[slicePick_plain,e]
 exact(rs.drop _).take _
theorem z32 {x:Tx}{t:Tok}{p q:Option (Int×Tok)}{value slice:Expr} (h1:sma x.length) (h2:Q (.str (zcd x (p.map (·.1)) (q.map (·.1)))) σ.mem) (r:Rep G Γ frz σ s):
  wpAny (model G.prog G.w) A (subscriptTail value slice (.str (mkS x) t) (.ref s.heap.objs.size)) (PO G Γ frz σ s Q) NoE {s with heap:=s.heap.push (zjm (partValue p) (partValue q) .none)}:=by
 have k:=za8 s.heap (zjm (partValue p) (partValue q) .none)
 have r1:=r.grow (tk:=s.toks) k
 refine zns (typeIs_str _ _ _) F.slot_str_getitem.lookup (getItem_meets (typeIs_str _ _ _) (by decide) F.slot_str_getitem F.entry_str_getitem (F.args_str_getitem_2 _ _)
  (meets_str_getitem_slice _ _ s.heap.objs.size p q none rfl) ⟨⟨_,Heap.get?_push_size _ rfl,rfl,rfl⟩,?_⟩)
 unfold sliceMade slicePicked
 rw[mkl]
 simp only[Option.map_none,Option.getD_none,beq_self_eq_true,Bool.true_and]
 generalize p.map (·.1)=a at *
 generalize q.map (·.1)=b at *
 have hlen:=zvx a b x
 split
 ·rename_i hc
  rw[zu2 x a b (by rw[←hlen];exact Bh.mp hc)] at h2
  exact⟨.str x,σ.mem,.str _ _,r1,.of k,h2⟩
 ·have e:(Builtin.Str.strSliceIndices a b 1 x.length).filterMap ((mkS x).cps[·]?)=(zcd x a b).map Char.toNat:=by
   have q:=zo0 (mkS x).cps a b
   rw[show(mkS x).cps.size=x.length by simp] at q
   rw[q,←zxi]
  rw[e]
  refine⟨?_,.str (zcd x a b),σ.mem,.str _ _,r1.toks _,.of k,h2⟩
  show(mkS (zcd x a b)).length≤_
  rw[mkl]
  exact ntr (zlp x a b) (za4 h1)
theorem z20 {l:Addr}{cl cu cs:Value}{a b:Option Int}{value slice:Expr} (pl:IsPart cl a) (pu:IsPart cu b) (ps:IsPart cs none)
  (h: ∃vs,(σ.mem l=some (.list vs)∨∃o,σ.mem l=some (.ro o vs))∧sma vs.length∧∀c,σ.mem c=none→Q (.obj c) (upd σ.mem c (.list (z49 vs a b none)))) (r:Rep G Γ frz σ s):
  wpAny (model G.prog G.w) A (subscriptTail value slice (.ref l) (.ref s.heap.objs.size)) (PO G Γ frz σ s Q) NoE {s with heap:=s.heap.push (zjm cl cu cs)}:=by
 have kk:=za8 s.heap (zjm cl cu cs)
 refine bc fun z9=>?_
 obtain⟨vs,e0,h1,h2⟩:=h
 refine z9 ?_
 obtain⟨arr,g,rs⟩: ∃arr,s.heap.IsList l arr∧RVs s.heap arr.toList vs:=by
  rcases e0 with e0 | ⟨_,e0⟩
  ·refine bc fun z9=>?_
   obtain⟨_,_,g,rs,_⟩:=(r.hmem _ _ e0).l
   refine z9 ?_
   exact⟨_,⟨_,g,rfl,_,rfl⟩,rs⟩
  ·cases r.hmem _ _ e0 with
   | ro g c d rs=>exact⟨_,⟨_,g,c,_,d⟩,rs⟩
 have hz:=rs.length
 simp only[Bx] at hz
 refine bc fun z9=>?_
 obtain⟨v,m,p1,p2,p3,p4⟩:=PO.newList (Q:=Q) (r.grow (tk:=s.toks) kk) (tk:=s.toks) (RVs.tk (.of kk) (z0u rs hz a b)) h2
 refine z9 ?_
 exact zns (Heap.IsList.typeIs (g.push _)) list_getitem_lookup (wpAny_getItem_list_slice (g.push _) (Heap.IsSliceOf.new ..) pl pu ps nofun ⟨v,m,p1,p2,(TK.of kk).trans p3,p4⟩ (by rw[hz];exact za4 h1))
theorem z76 {v l u st:V}{cv cl cu cs:Value}{value slice:Expr} (h:zmh σ.mem v l u st Q) (r:Rep G Γ frz σ s) (hv:RV s.heap cv v) (hl:RV s.heap cl l) (hu:RV s.heap cu u) (hs:RV s.heap cs st):
  wpAny (model G.prog G.w) A (subscriptTail value slice cv (.ref s.heap.objs.size)) (PO G Γ frz σ s Q) NoE {s with heap:=s.heap.push (zjm cl cu cs)}:=by
 cases v<;>first | (exact False.elim h) | skip
 ·cases st<;>first | (exact False.elim h) | skip
  rename_i x
  obtain⟨a,ea,h⟩:=zlg (show slK l fun a=>slK u fun b=>sma x.length∧Q (.str (zcd x a b)) σ.mem from h)
  obtain⟨b,eb,h1,h2⟩:=zlg h
  obtain⟨pa,rfl,rfl,_⟩:=zcc ea hl
  obtain⟨pb,rfl,rfl,_⟩:=zcc eb hu
  exact hs.eN (hv.eS fun _=>z32 h1 h2 r)
 ·rename_i x
  obtain⟨a,ea,h⟩:=zlg (show slK l fun a=>slK u fun b=>stK st fun k=> ∃vs,(σ.mem x=some (.list vs)∨∃o,σ.mem x=some (.ro o vs))∧sma vs.length∧∀c,σ.mem c=none→Q (.obj c) (upd σ.mem c (.list (z49 vs a b k))) from h)
  obtain⟨b,eb,h⟩:=zlg h
  obtain⟨rfl,h⟩:=z1f h
  obtain⟨_,_,_,qa⟩:=zcc ea hl
  obtain⟨_,_,_,qb⟩:=zcc eb hu
  obtain⟨_,_,_,qk⟩:=zcc (v:= .none) rfl hs
  exact hv.eO (z20 qa qb qk h r)
end
section
variable {G:GS}{A:Around}{Γ:FE}{frz:Frz}{σ:St}{s:Shared}{Q:V→Mem→Prop}
structure Rm (A:Around):Prop where
 hd:A.handled=none
 un:A.units+64<cLine
theorem zwf {h:Heap}: ∀(ns:List Int) {cs:List Value},RVs h cs (ns.map V.int)→IntsAre cs ns
 | [],_,r=>r.e0 .nil
 | _::ns,_,r=>r.eC (N:=fun cs=>IntsAre cs _) fun _ _ a b=>a.eI (M:=fun c=>IntsAre (c::_) _) fun _=> .cons _ _ (zwf ns b)
theorem PO.newRng (r:Rep G Γ frz σ s) {x y z:Int}{t u w:Tok}{tk:Nat} (q:Q (.rng x y z) σ.mem):
  PO G Γ frz σ s Q (.ref s.heap.objs.size) {s with heap:=s.heap.push {cls:= .type "range",data:= .fields #[.int x t,.int y u,.int z w]},toks:=tk}:=by
 have k:=za8 s.heap {cls:= .type "range",data:= .fields #[.int x t,.int y u,.int z w]}
 exact⟨_,_,.rng (Heap.get?_push_size _ rfl),r.grow k,.of k,q⟩
theorem Rep.anyList (r:Rep G Γ frz σ s) {l:Addr}{vs:List V} (h0:σ.mem l=some (.list vs)∨∃o,σ.mem l=some (.ro o vs)): ∃arr,s.heap.IsList l arr∧RVs s.heap arr.toList vs:=by
 rcases h0 with e0 | ⟨_,e0⟩
 ·cases r.hmem _ _ e0 with
  | list g rs=>exact⟨_,⟨_,g,rfl,_,rfl⟩,rs⟩
 ·cases r.hmem _ _ e0 with
  | ro g c d rs=>exact⟨_,⟨_,g,c,_,d⟩,rs⟩
noncomputable def Bi.val:Bi→Value
 | .range=> .type "range"
 | .list=> .type "list"
 | b=> .builtin b.name
theorem z2y {v:V}{cv:Value} (h:z9m σ.mem v Q) (r:Rep G Γ frz σ s) (hv:RV s.heap cv v):wpAny (model G.prog G.w) A (call (.builtin "len") [cv]) (PO G Γ frz σ s Q) NoE s:=by
 cases v<;>first | exact False.elim h | skip
 ·exact hv.eS fun _=>P.len_str (by rw[mkl];exact Int.not_le.mpr (zg1 h.1)) (by rw[mkl];exact PO.pure r (.int _ _) h.2)
 ·exact hv.eT fun _ _ _ g rs=>have e:=rs.length.symm.trans (Bx ..);PyProof.Rows.len_tuple ⟨_,g,rfl,_,rfl⟩ (by rw[←e];exact zg1 h.1) (by rw[←e];exact PO.pure r (.int _ _) h.2)
 ·obtain⟨vs,h0,h1,h2⟩:=h
  obtain⟨arr,g,rs⟩:=r.anyList h0
  have e:=rs.length.symm.trans (Bx ..)
  exact hv.eO (Calls.call_len_list g (by rw[←e];exact zg1 h1) (by rw[←e];exact PO.pure r (.int _ _) h2))
theorem z1s {a b:Int}{t u:Tok} (hA:Rm A) (h:Q (.int (if b<a then b else a)) σ.mem) (r:Rep G Γ frz σ s):wpAny (model G.prog G.w) A (call (.builtin "min") [.int a t,.int b u]) (PO G Γ frz σ s Q) NoE s:=by
 refine min_two_ints hA.hd fun h' tk k=>?_
 split
 ·rename_i c;rw[if_pos c] at h;exact⟨_,_,.int _ _,r.grow k,.of k,h⟩
 ·rename_i c;rw[if_neg c] at h;exact⟨_,_,.int _ _,r.grow k,.of k,h⟩
theorem Rep.intList (r:Rep G Γ frz σ s) {l:Addr}{ns:List Int} (h0:σ.mem l=some (.list (ns.map V.int))∨∃o,σ.mem l=some (.ro o (ns.map V.int))): ∃xs,s.heap.IsList l (intItems xs)∧ns=xs.toList.map (·.1):=by
 obtain⟨arr,g,rs⟩:=r.anyList h0
 have hi:=zwf _ rs
 obtain⟨xs,e⟩:=hi.allInts.items
 rw[Array.toArray_toList] at e
 exact⟨xs,by rw[←e];exact g,by rw[←hi.numsOf,←nums_intItems,←e]⟩
theorem z1r {v:V}{cv:Value} (hA:Rm A) (h:z9x σ.mem v Q) (r:Rep G Γ frz σ s) (hv:RV s.heap cv v):wpAny (model G.prog G.w) A (call (.builtin "sum") [cv]) (PO G Γ frz σ s Q) NoE s:=by
 obtain⟨l,rfl,ns,h0,h2⟩:=zdq h
 obtain⟨xs,hl,hns⟩:=r.intList h0
 refine hv.eO (sum_intListG hA.hd hl fun h' tk t' hk=>⟨_,_,.int _ _,r.grow hk,.of hk,?_⟩)
 rw[preSum_eq,Bd (by rw[Ar,Bx];exact Al _),←hns]
 exact h2
theorem z2k {v u w:V}{cv cu cw:Value} (h:zos v u fun a b=>asI w fun c=>zr a∧zr b∧zr c∧0<c∧Q (.rng a b c) σ.mem) (r:Rep G Γ frz σ s) (hv:RV s.heap cv v) (hu:RV s.heap cu u) (hw:RV s.heap cw w):
  wpAny (model G.prog G.w) A (call (.type "range") [cv,cu,cw]) (PO G Γ frz σ s Q) NoE s:=
 zhy (M:=fun cv cu=>wpAny (model G.prog G.w) A (call (.type "range") [cv,cu,cw]) (PO G Γ frz σ s Q) NoE s) h hv hu fun _ _ _ _ h=>by
  refine bc fun z9=>?_
  obtain⟨z,rfl,_,_,h3,h4,h5⟩:=zb3 h
  refine z9 ?_
  exact hw.eI fun _=>call_range_3 (Int.ne_of_gt h4) (PO.newRng r h5) (.inl (PyProof.noPylong_small (by unfold zr at h3;omega)))
theorem z0s (hA:Rm A) {v:V}{cv:Value} (h:z4y σ.mem v Q) (r:Rep G Γ frz σ s) (hv:RV s.heap cv v):wpAny (model G.prog G.w) A (call (.type "list") [cv]) (PO G Γ frz σ s Q) NoE s:=by
 cases v<;>first | exact False.elim h | skip
 ·obtain⟨vs,h0,h1,h2⟩:=h
  obtain⟨_,_,g,rs,e⟩:=(r.hmem _ _ h0).l
  exact hv.eO (call_list_seq _ (.inl rfl) g rfl rfl (fun h' c k g'=>⟨.obj _,_,.obj _,r.fresh (Al _) k (.list g' (rs.tk (.of k))),.of k,h2 _ (r.none_of_ge (Al _)).1⟩)
   (by rw[e];exact za4 h1))
theorem s_bi {b:Bi}{vs:List V}{cvs:List Value} (hA:Rm A) (_ok:Γ.ok) (h:zsj σ.mem b vs Q) (r:Rep G Γ frz σ s) (hv:RVs s.heap cvs vs):
  wpAny (model G.prog G.w) A (call b.val cvs) (PO G Γ frz σ s Q) NoE s:=by
 cases b<;>first | exact False.elim h | skip
 ·obtain⟨v,rfl,h⟩:=zds h
  exact hv.e1 fun _ a=>z2y h r a
 ·obtain⟨v,u,rfl,h⟩ | ⟨v,u,w,rfl,h⟩:=zua h
  ·exact hv.e2 fun _ _ a c=>zhy (M:=fun cv cu=>wpAny (model G.prog G.w) A (call (.builtin "min") [cv,cu]) (PO G Γ frz σ s Q) NoE s) h a c fun _ _ _ _ h=>z1s hA h r
  ·exact h.elim
 ·obtain⟨v,rfl,h⟩:=zds h
  exact hv.e1 fun _ a=>z1r hA h r a
 ·obtain⟨v,rfl,h⟩ | ⟨v,u,rfl,h⟩ | ⟨v,u,w,rfl,h⟩:=zto h
  ·obtain⟨x,rfl,h⟩:=zb3 h
   exact hv.e1 fun _ a=>a.eI (M:=fun c=>wpAny (model G.prog G.w) A (call (.type "range") [c]) (PO G Γ frz σ s Q) NoE s) fun _=>call_range_1 (PO.newRng r h.2)
  ·exact hv.e2 fun _ _ a c=>zhy (M:=fun cv cu=>wpAny (model G.prog G.w) A (call (.type "range") [cv,cu]) (PO G Γ frz σ s Q) NoE s) h a c fun _ _ _ _ h=>call_range_2 (PO.newRng r h.2.2)
  ·exact hv.e3 fun _ _ _ a c e=>z2k h r a c e
 ·obtain⟨v,rfl,h⟩:=zds h
  exact hv.e1 fun _ a=>z0s hA h r a
theorem zvf (x y:Tx) (i:Nat):StrLaws.At (mkS x) (mkS y) (mkS x).length i↔Occ x y i:=by
 unfold StrLaws.At Occ
 rw[StrLaws.subAt_eq,mkl,mkl]
 simp only[Bh,←List.map_drop,←List.map_take]
 constructor
 ·rintro ⟨a,b⟩;exact⟨a,(List.map_inj_right fun x y e=>toNat_inj e).mp b⟩
 ·rintro ⟨a,b⟩;exact⟨a,by rw[b]⟩
theorem zst (x y:Tx) (k:Nat):zga x y k (match Builtin.Str.occurrences (mkS x) (mkS y) k (mkS x).length 1 with | i::_=>(i:Int) | []=>-1):=by
 rcases StrLaws.occ_head_from (mkS x) (mkS y) k 1 (Al _) with ⟨e,h⟩ | ⟨i,r,e,h1,h2,h3⟩
 ·rw[e];exact .inl ⟨rfl,fun i hi q=>h i hi ((zvf x y i).mpr q)⟩
 ·rw[e];exact .inr ⟨i,rfl,h1,(zvf x y i).mp h2,fun j a b q=>h3 j a b ((zvf x y j).mpr q)⟩
theorem zu5 (x y:Tx):(decide (0+(mkS y).length≤(mkS x).length)&&Builtin.Str.subAt (mkS x) (mkS y) 0)=decide (x.take y.length=y):=by
 rw[Bool.eq_iff_iff,Cc,decide_eq_true_eq,decide_eq_true_eq,StrLaws.subAt_eq,mkl,mkl]
 simp only[Bh,←List.map_take,List.drop_zero]
 constructor
 ·rintro ⟨_,b⟩;exact(List.map_inj_right fun x y e=>toNat_inj e).mp b
 ·intro b;exact⟨by have:=congrArg List.length b;rw[An] at this;exact zj 80317199704559939289643 rfl this (Nat.min_le_right _ _),by rw[b]⟩
theorem z3c (x y:Tx):(decide (0+(mkS y).length≤(mkS x).length)&&Builtin.Str.subAt (mkS x) (mkS y) ((mkS x).length-(mkS y).length))=decide (y.length≤x.length∧x.drop (x.length-y.length)=y):=by
 rw[Bool.eq_iff_iff,Cc,decide_eq_true_eq,decide_eq_true_eq,StrLaws.subAt_eq,mkl,mkl]
 simp only[Bh,←List.map_take,←List.map_drop]
 constructor
 ·rintro ⟨a,b⟩
  have:=(List.map_inj_right fun x y e=>toNat_inj e).mp b
  exact⟨by exact ze 5071429268145192 rfl a,by rw[Bd (by rw[Ap];exact zT 83155561718923140130275880 rfl (Nat.sub_le_iff_le_add.mp (Al _)) (Ab (ze 4952567644712 rfl (Nat.sub_le _ _))))] at this;exact this⟩
 ·rintro ⟨a,b⟩;exact⟨by exact ze 5070956687589928 rfl a,by rw[b,List.take_length]⟩
theorem zn2 {n:Nat}{i:Int} (h:0≤i):fromIndex n i=i.toNat:=by unfold fromIndex;rw[if_neg (by exact Bk.mpr (zrv 550158532640 rfl h))];congr 1;lia
noncomputable def Me.id (m:Me):String:=match m with
 | .find=>"str.find" | .startswith=>"str.startswith" | .endswith=>"str.endswith" | .join=>"str.join"
 | .append=>"list.append" | .pop=>"list.pop" | .insert=>"list.insert"
theorem z6b {h:Heap}{l:Addr}{o:Obj} (g:h.get? l=some o) (d:o.dict=none): ∀a,Value.ref l= .ref a→∃o,h.get? a=some o∧o.dict=none:=fun a e=>by cases e;exact⟨_,g,d⟩
theorem z8m {s:Shared}{l:Addr}{arr:Array Value}{n:Nat} (g:s.heap.get? l=some {cls:= .type "list",data:= .seq arr n}):s.TypeIs (.ref l) "list":=⟨_,g,rfl⟩
theorem Rep.listAt (r:Rep G Γ frz σ s) {a:Addr} (h: ∃l,σ.mem a=some (.list l)):s.TypeIs (.ref a) "list"∧∀b,Value.ref a= .ref b→∃o,s.heap.get? b=some o∧o.dict=none:=
 let ⟨_,e⟩:=h;let ⟨_,_,g,_,_⟩:=(r.hmem _ _ e).l;⟨z8m g,z6b g rfl⟩
theorem z3o {v:V}{cv:Value}{m:Me}{pl:Sem Bool}{E:Value→Shared→Prop}{R:Value×List Value→Shared→Prop} (h:zwk σ.mem v m) (r:Rep G Γ frz σ s) (hv:RV s.heap cv v) (q:R (.builtin (m.id),[cv]) s):
  wpAny (model G.prog G.w) A (getMethod cv (Str.ofString m.name) pl) R E s:=by
 cases m
 ·obtain⟨x,rfl,_⟩:=zay h;replace q:R (.builtin "str.find",[cv]) s:=q;show wpAny _ A (getMethod cv (Str.ofString "find") pl) R E s
  revert q;exact hv.eS fun _ q=>by with_reducible exact GM.find q
 ·obtain⟨x,rfl,_⟩:=zay h;replace q:R (.builtin "str.startswith",[cv]) s:=q;show wpAny _ A (getMethod cv (Str.ofString "startswith") pl) R E s
  revert q;exact hv.eS fun _ q=>by with_reducible exact GM.startswith q
 ·obtain⟨x,rfl,_⟩:=zay h;replace q:R (.builtin "str.endswith",[cv]) s:=q;show wpAny _ A (getMethod cv (Str.ofString "endswith") pl) R E s
  revert q;exact hv.eS fun _ q=>by with_reducible exact GM.endswith q
 ·obtain⟨x,rfl,_⟩:=zay h;replace q:R (.builtin "str.join",[cv]) s:=q;show wpAny _ A (getMethod cv (Str.ofString "join") pl) R E s
  revert q;exact hv.eS fun _ q=>by with_reducible exact GM.join q
 ·obtain⟨x,rfl,h⟩:=zdq h;replace q:R (.builtin "list.append",[cv]) s:=q;have h:=r.listAt h;show wpAny _ A (getMethod cv (Str.ofString "append") pl) R E s
  revert q;exact hv.eO fun q=>by with_reducible exact getMethod_builtin h.1 F.plainAttrs_list F.slot_list_append F.type_list_append h.2 q
 ·obtain⟨x,rfl,h⟩:=zdq h;replace q:R (.builtin "list.pop",[cv]) s:=q;have h:=r.listAt h;show wpAny _ A (getMethod cv (Str.ofString "pop") pl) R E s
  revert q;exact hv.eO fun q=>by with_reducible exact getMethod_builtin h.1 F.plainAttrs_list F.slot_list_pop F.type_list_pop h.2 q
 ·obtain⟨x,rfl,h⟩:=zdq h;replace q:R (.builtin "list.insert",[cv]) s:=q;have h:=r.listAt h;show wpAny _ A (getMethod cv (Str.ofString "insert") pl) R E s
  revert q;exact hv.eO fun q=>by with_reducible exact getMethod_builtin h.1 F.plainAttrs_list F.slot_list_insert F.type_list_insert h.2 q
theorem zs6 {h:Heap}: ∀(xs:List Tx) {cs:List Value},RVs h cs (xs.map V.str)→StrsAre cs (xs.map mkS)
 | [],_,r=>r.e0 .nil
 | _::xs,_,r=>r.eC (N:=fun cs=>StrsAre cs _) fun _ _ a b=>a.eS (M:=fun c=>StrsAre (c::_) _) fun _=> .cons _ _ (zs6 xs b)
theorem zm3: ∀xs:List Tx,Str.join (mkS []) (xs.map mkS)=mkS xs.flatten
 | []=>rfl
 | [x]=>by simp[Str.join]
 | x::y::xs=>by
  have ih:=zm3 (y::xs)
  rw[List.map_cons,List.map_cons,Str.join,←List.map_cons,ih,zep,zep,Ag]
  ·rfl
  ·intro h;cases h
theorem z17 (xs:List Tx):((xs.map mkS).map (·.length)).sum=xs.flatten.length:=by
 induction xs with
 | nil=>rfl
 | cons x xs ih=>simp only[List.map_cons,List.sum_cons,List.flatten_cons,Aa,ih,mkl]
theorem zxc {x:Tx}{v:V}{cv:Value}{t:Tok} (h:x=[]∧asO v fun a=> ∃xs:List Tx,σ.mem a=some (.list (xs.map V.str))∧xs.length≤500000∧xs.flatten.length≤500000∧Q (.str xs.flatten) σ.mem) (r:Rep G Γ frz σ s) (hv:RV s.heap cv v):
  wpAny (model G.prog G.w) A (call (.builtin "str.join") [.str (mkS x) t,cv]) (PO G Γ frz σ s Q) NoE s:=by
 obtain⟨rfl,h⟩:=h
 refine bc fun z9=>?_
 obtain⟨l,rfl,xs,e,h1,h2,h3⟩:=zdq h
 refine z9 ?_
 refine bc fun z9=>?_
 obtain⟨_,n,g,rs,_⟩:=(r.hmem _ _ e).l
 refine z9 ?_
 refine hv.eO (join_listW (ys:=xs.map mkS) ⟨_,g,rfl,n,rfl⟩ (zs6 _ rs) (by rw[mkl];decide) (by rw[z17,Ar];exact ze 808773686873140638433592767241784473356861992 rfl h1 h2) fun t' k=>?_)
 rw[show PySem.Txt.join (mkS []) (xs.map mkS)=mkS xs.flatten from(StrLaws.glued_eq_join _ _).trans (zm3 xs)]
 exact PO.pure r (.str _ _) h3
theorem PO.upd (ok:Γ.ok) (r:Rep G Γ frz σ s) {a:Addr}{l l':List V}{arr:Array Value}{n:Nat}{f:Array Value→Array Value} (e:σ.mem a=some (.list l)) (g:s.heap.get? a=some {cls:= .type "list",data:= .seq arr n})
  {v:V} {cv:Value} (rv: ∀h',TK s.heap h'→RV h' cv v) (rs: ∀h',TK s.heap h'→RVs h' (f arr).toList l') (q:Q v (Mine.Internal.upd σ.mem a (.list l'))):PO G Γ frz σ s Q cv {s with heap:=s.heap.update a (Obj.mapSeq f)}:=
 have p:=r.change ok (tk:=s.toks) (o:= .list l') e (h':=s.heap.update a (Obj.mapSeq f)) (fun _ _ hb e=>(Heap.get?_update_other _ _ (Ne.symm hb)).trans e) (fun k=> .list (Heap.get?_update_self _ g rfl) (rs _ k))
 ⟨v,_,rv _ p.2,p.1,p.2,q⟩
theorem z26 {a:Addr}{v:V}{cv:Value} (ok:Γ.ok) (h: ∃vs,σ.mem a=some (.list vs)∧sma vs.length∧Q .none (Mine.Internal.upd σ.mem a (.list (vs++[v])))) (r:Rep G Γ frz σ s) (hv:RV s.heap cv v):
  wpAny (model G.prog G.w) A (call (.builtin "list.append") [.ref a,cv]) (PO G Γ frz σ s Q) NoE s:=by
 obtain⟨l,e,h1,h2⟩:=h
 obtain⟨arr,n,g,rs,hz⟩:=(r.hmem _ _ e).l
 refine call_meets F.slot_list_append ⟨_,g,rfl⟩ F.entry_list_append (F.args_list_append_2 _ _) (AutoListH.list_append_list_val_0 _ _ _ _ (by rw[hz];exact za4 h1)) ⟨g,?_⟩
 exact PO.upd ok r e g (fun _ _=> .none) (fun h' k=>by rw[Array.toList_push];exact(rs.tk k).append (.one (hv.tk k))) h2
theorem z15 {a:Addr} (ok:Γ.ok) (h: ∃vs v,σ.mem a=some (.list (vs++[v]))∧sma vs.length∧Q v (Mine.Internal.upd σ.mem a (.list vs))) (r:Rep G Γ frz σ s):
  wpAny (model G.prog G.w) A (call (.builtin "list.pop") [.ref a]) (PO G Γ frz σ s Q) NoE s:=by
 obtain⟨vs,v,e,h1,h2⟩:=h
 obtain⟨arr,n,g,rs,hz⟩:=(r.hmem _ _ e).l
 rw[Aa,List.length_singleton] at hz
 obtain⟨cv,g1,g2⟩:=rs.get (i:=vs.length) (x:=v) List.getElem?_concat_length
 have hz':arr.size-1=vs.length:=by rw[hz];rfl
 refine call_meets F.slot_list_pop ⟨_,g,rfl⟩ F.entry_list_pop (F.args_list_pop_1 _) (MeetsSeq.list_pop_last _ _ _ cv (by rw[hz',←Array.getElem?_toList];exact g1) (by rw[hz,sizeLine_eq];exact ntr (Be h1) (by decide))) ⟨g,?_⟩
 refine PO.upd ok r e g (fun _ k=>g2.tk k) (fun h' k=>?_) h2
 have t:=(rs.tk k).take vs.length
 rw[List.take_left' rfl] at t
 simp only[Array.toList_eraseIdxIfInBounds,List.eraseIdx_eq_take_drop_succ,hz',List.drop_of_length_le (by rw[Bx,hz];exact Al _),Ag]
 exact t
theorem z2m {arr:Array Value}{k:Int}{x:Value} (h0:0≤k):((arr.extract 0 (if k<0 then(k+(arr.size:Int)).toNat else min k.toNat arr.size)).push x++arr.extract (if k<0 then(k+(arr.size:Int)).toNat else min k.toNat arr.size)).toList=arr.toList.take k.toNat++x::arr.toList.drop k.toNat:=by
 simp only[if_neg (Bk.mpr h0),Array.toList_append,Array.toList_push,Array.toList_extract,Array.toList_extract,List.extract_eq_take_drop,List.extract_eq_take_drop,Ah,←Bx,List.drop_zero,Nat.sub_zero]
 by_cases hc:k.toNat≤arr.toList.length
 ·rw[Aw hc,Bd (l:=arr.toList.drop _) (by rw[Ap];exact Al _)];rfl
 ·have hc:=Nat.le_of_not_le hc
  rw[Nat.min_eq_right hc,Bd hc,List.drop_of_length_le hc,List.drop_of_length_le (Al _),List.take_length,List.take_nil];rfl
theorem z1n {a:Addr}{i v:V}{ci cv:Value} (ok:Γ.ok) (h:asI i fun k=>0≤k∧zr k∧∃vs,σ.mem a=some (.list vs)∧sma vs.length∧Q .none (Mine.Internal.upd σ.mem a (.list (vs.take k.toNat++v::vs.drop k.toNat)))) (r:Rep G Γ frz σ s) (hi:RV s.heap ci i) (hv:RV s.heap cv v):
  wpAny (model G.prog G.w) A (call (.builtin "list.insert") [.ref a,ci,cv]) (PO G Γ frz σ s Q) NoE s:=by
 refine bc fun z9=>?_
 obtain⟨k,rfl,h0,hk,l,e,h1,h2⟩:=zb3 h
 refine z9 ?_
 refine bc fun z9=>?_
 obtain⟨arr,n,g,rs,hz⟩:=(r.hmem _ _ e).l
 refine z9 ?_
 refine hi.eI fun _=>call_meets F.slot_list_insert ⟨_,g,rfl⟩ F.entry_list_insert (F.args_list_insert_3 _ _ _) (AutoListH.list_insert_list_int_val_1 _ _ _ _ _ _ (by rw[zin hk];decide) (by rw[hz];exact za4 h1)) ⟨g,?_⟩
 exact PO.upd ok r e g (fun _ _=> .none) (fun h' kk=>by rw[z2m h0];exact((rs.tk kk).take _).append (.cons (hv.tk kk) ((rs.tk kk).drop _))) h2
theorem zw2 {x:Tx}{t:Tok}{vs:List V}{cvs:List Value} (h:z0k vs (fun v=>asS v fun t=>sma x.length∧sma t.length∧∀r,zga x t 0 r→Q (.int r) σ.mem) fun v u=>asS v fun t=>asI u fun i=>sma x.length∧sma t.length∧0≤i∧∀r,zga x t i.toNat r→Q (.int r) σ.mem)
  (r:Rep G Γ frz σ s) (hv:RVs s.heap cvs vs):wpAny (model G.prog G.w) A (call (.builtin "str.find") (.str (mkS x) t::cvs)) (PO G Γ frz σ s Q) NoE s:=by
 obtain⟨v,rfl,h⟩ | ⟨v,u,rfl,h⟩:=zsu h
 ·obtain⟨y,rfl,_,_,h3⟩:=zay h
  refine hv.e1 fun _ a=>a.eS (M:=fun c=>wpAny (model G.prog G.w) A (call (.builtin "str.find") [.str (mkS x) t,c]) (PO G Γ frz σ s Q) NoE s) fun _=>?_
  exact call_meets F.slot_str_find (typeIs_str _ _ _) F.entry_str_find (F.args_str_find_2 _ _) (gives_str_find _ _ _ _).meets (PO.pure r (.int _ _) (h3 _ (zst _ _ 0)))
 ·obtain⟨y,rfl,h⟩:=zay h
  obtain⟨i,rfl,_,_,h0,h3⟩:=zb3 h
  refine hv.e2 fun _ _ a c=>a.eS (M:=fun d=>wpAny (model G.prog G.w) A (call (.builtin "str.find") [.str (mkS x) t,d,_]) (PO G Γ frz σ s Q) NoE s) fun _=>?_
  refine c.eI (M:=fun d=>wpAny (model G.prog G.w) A (call (.builtin "str.find") [.str (mkS x) t,.str (mkS y) _,d]) (PO G Γ frz σ s Q) NoE s) fun _=>?_
  exact call_meets F.slot_str_find (typeIs_str _ _ _) F.entry_str_find (F.args_str_find_3 _ _ _) (gives_str_find_from _ _ _ _ _ _).meets (PO.pure r (.int _ _) (by rw[zn2 h0];exact h3 _ (zst _ _ _)))
theorem s_me {v:V}{m:Me}{vs:List V}{cv:Value}{cvs:List Value} (ok:Γ.ok) (h:zvd σ.mem v m vs Q) (r:Rep G Γ frz σ s) (hv:RV s.heap cv v) (hvs:RVs s.heap cvs vs):
  wpAny (model G.prog G.w) A (call (.builtin (m.id)) (cv::cvs)) (PO G Γ frz σ s Q) NoE s:=by
 cases m
 ·obtain⟨x,rfl,h⟩:=zay h
  exact hv.eS fun _=>zw2 h r hvs
 ·obtain⟨x,rfl,h⟩:=zay h
  obtain⟨v,rfl,h⟩:=zds h
  obtain⟨y,rfl,h⟩:=zay h
  exact hv.eS fun t=>hvs.e1 fun _ a=>a.eS (M:=fun c=>wpAny (model G.prog G.w) A (call (.builtin "str.startswith") [.str (mkS x) t,c]) (PO G Γ frz σ s Q) NoE s) fun _=>
   call_meets F.slot_str_startswith (typeIs_str _ _ _) F.entry_str_startswith (F.args_str_startswith_2 _ _) (gives_str_startswith _ _ _ _).meets (PO.here r (.bool _) (by rw[zu5];exact h))
 ·obtain⟨x,rfl,h⟩:=zay h
  obtain⟨v,rfl,h⟩:=zds h
  obtain⟨y,rfl,h⟩:=zay h
  exact hv.eS fun t=>hvs.e1 fun _ a=>a.eS (M:=fun c=>wpAny (model G.prog G.w) A (call (.builtin "str.endswith") [.str (mkS x) t,c]) (PO G Γ frz σ s Q) NoE s) fun _=>
   call_meets F.slot_str_endswith (typeIs_str _ _ _) F.entry_str_endswith (F.args_str_endswith_2 _ _) (gives_str_endswith _ _ _ _).meets (PO.here r (.bool _) (by rw[z3c];exact h))
 ·obtain⟨x,rfl,h0,h⟩:=zay h
  obtain⟨v,rfl,h⟩:=zds h
  exact hv.eS fun t=>hvs.e1 fun _ a=>zxc ⟨h0,h⟩ r a
 ·obtain⟨a,rfl,h⟩:=zdq h
  obtain⟨v,rfl,h⟩:=zds h
  exact hv.eO (hvs.e1 fun _ a=>z26 ok h r a)
 ·obtain⟨a,rfl,rfl,h'⟩:=zdq h
  exact hv.eO (hvs.e0 (z15 ok (show ∃vs v,σ.mem a=some (.list (vs++[v]))∧sma vs.length∧Q v (Mine.Internal.upd σ.mem a (.list vs)) from h') r))
 ·obtain⟨a,rfl,h⟩:=zdq h
  obtain⟨i,v,rfl,h⟩:=zw4 h
  exact hv.eO (hvs.e2 fun _ _ a c=>z1n ok h r a c)
end
section
variable {G:GS}{A:Around}{Γ:FE}{frz:Frz}{σ:St}{s:Shared}{Q:V→Mem→Prop}
theorem zev {h:Heap}{n:String}: ∀{es:List DictEntry}{fs:List (Str×V)},zd4 h es fs→
  (∀v,yD n fs=some v→∃cv,getL (Str.ofString n) es=some (some cv)∧RV h cv v)∧(yD n fs=none→getL (Str.ofString n) es=some none)
 | [],[],_=>⟨fun v e=>by simp[yD] at e,fun _=>rfl⟩
 | e::es,(x,u)::fs,⟨⟨t,hk⟩,hr,hf⟩=>by
  obtain⟨ih1,ih2⟩:=zev (n:=n) hf
  have hi:e.key.isStr (Str.ofString n)=(x==Str.ofString n):=by rw[hk];rfl
  have href:e.refKey=false:=by unfold DictEntry.refKey;rw[hk]
  constructor
  ·intro v hl
   unfold yD at hl
   unfold getL
   rw[List.find?_cons,hi]
   split at hl
   ·rename_i c
    rw[Bh.mpr c]
    cases hl
    exact⟨_,rfl,hr⟩
   ·rename_i c
    rw[beq_eq_false_iff_ne.mpr c]
    obtain⟨cv,g,q⟩:=ih1 v hl
    refine⟨cv,?_,q⟩
    unfold getL at g
    split at g
    ·rename_i c2;rw[c2];exact g
    ·split at g<;>cases g
  ·intro hl
   unfold yD at hl
   unfold getL
   rw[List.find?_cons,hi]
   split at hl
   ·cases hl
   ·rename_i c
    rw[beq_eq_false_iff_ne.mpr c]
    have g:=ih2 hl
    unfold getL at g
    split at g
    ·cases g
    ·rename_i c2
     rw[c2]
     split at g
     ·cases g
     ·rename_i c3
      simp only[List.any_cons,href,Bool.false_or]
      rw[if_neg c3]
 | [],_::_,x=>x.elim
 | _::_,[],x=>x.elim
structure PC.ok (G:GS) (P:PC):Prop where
 hd:hasDictIn G.K P.cls=true
 get: ∀n,P.fld n=true→plainGet G.K P.cls (Str.ofString n)=true∧findIn G.K (.ref P.cls) (Str.ofString n)=some none∧takerIn G.K P.cls (Str.ofString n)=some none
 cc: ∀n v,P.cc n=some v→plainGet G.K P.cls (Str.ofString n)=true∧copiedNames.contains (Str.ofString n)=false∧
  ∃a,findIn G.K (.ref P.cls) (Str.ofString n)=some (some a)∧specialIn G.K a "__get__"=some none∧handedIn a=true∧∀h,RV h a v
 set:findIn G.K (.ref P.cls) "__setattr__"=some (some (.builtin "object.__setattr__"))
 over:plainOver G.K P.cls=true
theorem Rep.kin (gok:G.ok) (r:Rep G Γ frz σ s):G.K.In s.heap:=fun a o e=>r.hfrz _ _ (r.hbase _ _ (gok.k a o e))
theorem zwd {h:Heap}{cv:Value}{v:V} (r:RV h cv v):handedIn cv=true:=by cases r<;>rfl
theorem zof (r:Rep G Γ frz σ s) {C a d:Addr}{fs:List (Str×V)} (e1:σ.mem a=some (.inst C d)) (e2:σ.mem d=some (.dict fs)):
  ∃es n,InstAt s.heap a (instObj C d) C (some (dictOf es n))∧zd4 s.heap es fs∧s.heap.get? d=some (dictOf es n):=by
 cases r.hmem _ _ e1 with
 | inst g1=>
 cases r.hmem _ _ e2 with
 | @dict es n _ g2 hf=>exact⟨es,n,⟨g1,rfl,rfl,g2⟩,hf,g2⟩
theorem z4e {P:PC}{v:V}{cv:Value}{n:String}{expr:Bool}{Q:V→Prop} (gok:G.ok) (pok:P.ok G) (h:zhv P σ.mem v n Q) (r:Rep G Γ frz σ s) (hv:RV s.heap cv v):
  wpAny (model G.prog G.w) A (getAttr cv (Str.ofString n) expr) (PO G Γ frz σ s fun r m=>m=σ.mem∧Q r) NoE s:=by
 unfold zhv at h
 split at h
 ·refine bc fun z9=>?_
  obtain⟨d,fs,e1,e2,h⟩:=h
  refine z9 ?_
  cases hv
  refine bc fun z9=>?_
  obtain⟨es,k,I,hf,_⟩:=zof r e1 e2
  refine z9 ?_
  have X:=r.kin gok
  obtain⟨q1,q2⟩:=zev (n:=_) hf
  split at h
  ·rename_i v hl
   refine bc fun z9=>?_
   obtain⟨cv,g,rv⟩:=q1 _ hl
   refine z9 ?_
   refine bc fun z9=>?_
   obtain⟨a1,a2,a3⟩:=pok.get _ h.1
   refine z9 ?_
   exact get_value X I (plainGet_of a1).1 (findObj_own pok.hd a2 rfl g) (zwd rv) ⟨_,_,rv.tk (.refl _),r.toks _,.refl _,rfl,h.2⟩
  ·rename_i hl
   refine bc fun z9=>?_
   obtain⟨v,hc,q⟩:=h
   refine z9 ?_
   refine bc fun z9=>?_
   obtain⟨a1,a2,a,a3,a4,a5,a6⟩:=pok.cc _ _ hc
   refine z9 ?_
   exact get_value X I (plainGet_of a1).1 (findObj_cls pok.hd a3 a4 a5 a2 (q2 hl)) a5 ⟨_,_,a6 _,r.toks _,.refl _,rfl,q⟩
 ·exact h.elim
theorem zd4.length {h:Heap}: ∀{es:List DictEntry}{fs:List (Str×V)},zd4 h es fs→es.length=fs.length
 | [],[],_=>rfl
 | _::_,_::_,⟨_,_,f⟩=>by simp[f.length]
 | [],_::_,x=>x.elim
 | _::_,[],x=>x.elim
theorem zko {h:Heap}{n:String}{hs:Int}{tk:Tok}{cv:Value}{v:V} (rv:RV h cv v): ∀{es:List DictEntry}{fs:List (Str×V)},zd4 h es fs→
  zd4 h (putL (Str.ofString n) hs (.str (Str.ofString n) tk) cv es) (zn5 n v fs)∧(putL (Str.ofString n) hs (.str (Str.ofString n) tk) cv es).length≤fs.length+1
 | [],[],_=>⟨⟨⟨tk,rfl⟩,rv,trivial⟩,by simp[putL]⟩
 | e::es,(x,u)::fs,⟨⟨t,hk⟩,hr,hf⟩=>by
  obtain⟨ih1,ih2⟩:=zko (n:=n) (hs:=hs) (tk:=tk) rv hf
  have hi:e.key.isStr (Str.ofString n)=(x==Str.ofString n):=by rw[hk];rfl
  unfold putL zn5
  rw[hi]
  by_cases c:x=Str.ofString n
  ·rw[if_pos (by simpa using c),if_pos c]
   have hlen:es.length=fs.length:=by
    exact hf.length
   exact⟨⟨⟨t,hk⟩,rv,hf⟩,by simp[hlen]⟩
  ·rw[if_neg (by simpa using c),if_neg c]
   exact⟨⟨⟨t,hk⟩,hr,ih1⟩,by simp;omega⟩
 | [],_::_,x=>x.elim
 | _::_,[],x=>x.elim
theorem zu1 {h:Heap}{a:Addr}{m m':Str→Option Value} (x:h.Ns a m) (y:h.Ns a m'):m=m':=by
 obtain⟨o,es,ep,e,d,_,f⟩:=x
 obtain⟨o',es',ep',e',d',_,f'⟩:=y
 rw[e] at e';cases e'
 rw[d] at d';cases d'
 funext n;rw[←f,←f']
theorem zu7 {P:PC}{a d:Addr}{fs:List (Str×V)}{v:V}{cv:Value}{n:String} (gok:G.ok) (pok:P.ok G) (ok:Γ.ok) (r:Rep G Γ frz σ s) (e1:σ.mem a=some (.inst P.cls d)) (e2:σ.mem d=some (.dict fs))
  (hf:P.fld n=true) (hz:fs.length≤100) (hv:RV s.heap cv v):
  wpAny (model G.prog G.w) A (setAttr (.ref a) (Str.ofString n) cv) (fun _ s'=>Rep G Γ frz {σ with mem:=upd σ.mem d (.dict (zn5 n v fs))} s'∧TK s.heap s'.heap) NoE s:=by
 refine bc fun z9=>?_
 obtain⟨es,k,I,hF,g⟩:=zof r e1 e2
 refine z9 ?_
 refine bc fun z9=>?_
 obtain⟨m,nm,_⟩:=r.hns
 refine z9 ?_
 have X:=r.kin gok
 obtain⟨q1,q2⟩:=zev (n:=n) hF
 refine bc fun z9=>?_
 obtain⟨a1,a2,a3⟩:=pok.get _ hf
 refine z9 ?_
 obtain⟨p1,p2⟩:=zko (n:=n) (hs:=PyData.keyHash G.w.params (Str.ofString n)) (tk:=s.toks+1) hv hF
 have hl:(lookIn (Str.ofString n) (dictOf es k)).isSome=true:=by
  rw[lookIn_dict]
  cases hq:yD n fs with
  | none=>rw[q2 hq];rfl
  | some u=>obtain⟨cu,gu,_⟩:=q1 u hq;rw[gu];rfl
 have hdL:d≠Γ.env.locals:=r.mem_ne e2
 have hdb:G.base.get? d=none:=by
  cases q:G.base.get? d with
  | none=>rfl
  | some o=>have:=r.hbase _ _ q;rw[r.hmemF _ _ e2] at this;cases this
 have N:News G.base Γ.env.locals s.heap ([]++(d,dictOf es k)::ziv G Γ.env.locals s.heap [d]):=fun p hp=>by
  rcases List.mem_cons.mp hp with rfl | hp
  ·exact⟨g,hdL,hdb⟩
  ·exact r.rest [d] p hp
 refine set_plain X I pok.set ?_
 refine osa_dict (s:={s with toks:=s.toks+1}) (r.fr nm) N X I rfl pok.over a3 pok.hd hl (fun _ h=>(nomatch h)) (fun p hp=>?_) (putName_dict _ _ _ _ _ _) rfl (ntr p2 (by exact zm 9398625123869887824424 rfl hz)) fun h' F' N'=>?_
 ·obtain⟨b,o⟩:=p
  have:=(zer.mp hp).2.1
  simpa using this
 ·have N2:News G.base Γ.env.locals h' (ziv G Γ.env.locals s.heap [d]):=fun p hp=>N' p (Ao _ hp)
  have g':=(N' _ (Aq)).1
  exact r.changeL ok e2 (fun b o hb hl e=>r.keep_of_rest F' N2 b o (by simpa using hb) hl e) (fun m' n'=>zu1 nm n'▸F'.ns) (fun k=> .dict g' (p1.tk k))
end
noncomputable def znm (σ:St) (s:Shared):Frz:=fun b=>match σ.mem b with
 | some _=>none
 | none=>s.heap.get? b
theorem yS {σ:St}{s:Shared}{b:Addr}{o:Obj}:znm σ s b=some o↔σ.mem b=none∧s.heap.get? b=some o:=by
 unfold znm
 cases σ.mem b<;>simp
noncomputable def PR (G:GS) (frz:Frz) (s:Shared) (Q:V→Mem→Prop):Value→Shared→Prop:=
 fun cv s'=> ∃v m,RV s'.heap cv v∧Rp G frz m s'∧TK s.heap s'.heap∧Q v m
noncomputable def zc6 (G:GS) (A:Around) (f:Value) (vs:List V) (Q:V→Mem→Prop) (m:Mem):Prop:=
 ∀Γ frz σ s cvs,FE.ok Γ→Rep G Γ frz σ s→σ.mem=m→RVs s.heap cvs vs→wpAny (model G.prog G.w) A (call f cvs) (PO G Γ frz σ s Q) NoE s
section
variable {G:GS}{A:Around}{Γ:FE}{frz:Frz}{σ:St}{s s':Shared}
theorem Rep.upIn (r:Rep G Γ frz σ s) {b:Addr}{o:Obj} (e:frz b=some o):znm σ s b=some o:=by
 refine yS.mpr ⟨?_,r.hfrz _ _ e⟩
 cases q:σ.mem b with
 | none=>rfl
 | some x=>rw[r.hmemF b x q] at e;cases e
theorem Rep.inn (r:Rep G Γ frz σ s):Rp G (znm σ s) σ.mem s:=
 ⟨r.same,fun _ _ e=>r.upIn (r.hbase _ _ e),fun _ _ e=>r.upIn (r.hkeep _ _ e),fun _ _ e=>(yS.mp e).2,r.hmem,fun a o e=>by unfold znm;rw[e],r.rp.hsz⟩
theorem Rep.back (r:Rep G Γ frz σ s) {G':GS} (hs0:G'.s0=G.s0) {frz':Frz}{m':Mem} (r':Rp G' frz' m' s') (hf: ∀b o,σ.mem b=none→b=Γ.env.locals∨(∃o',frz b=some o')∨(∃(i:Nat),∃x,Γ.vars[i]? =some (x,.own b))→s.heap.get? b=some o→frz' b=some o)
  (tk:TK s.heap s'.heap):Rep G Γ frz {σ with mem:=m'} s':=by
 have none_of: ∀b o,frz b=some o→σ.mem b=none:=fun b o e=>by
  cases q:σ.mem b with
  | none=>rfl
  | some x=>rw[r.hmemF b x q] at e;cases e
 have out: ∀b o,frz' b=some o→m' b=none:=fun b o g=>by
  cases q:m' b with
  | none=>rfl
  | some x=>have:=r'.hmemF b x q;rw[g] at this;cases this
 have F1: ∀b o,frz b=some o→frz' b=some o:=fun b o e=>hf b o (none_of b o e) (.inr (.inl ⟨o,e⟩)) (r.hfrz b o e)
 refine bc fun z9=>?_
 obtain⟨m,⟨o0,es,ep,e0,rest⟩,f⟩:=r.hns
 refine z9 ?_
 have FL:=hf _ _ r.hlm (.inl rfl) e0
 refine⟨by rw[←hs0];exact r'.same,r.hbase,r.hkeep,fun b o e=>r'.hfrz _ _ (F1 b o e),r'.hmem,fun a o e=>?_,r.hab,r.hlf,out _ _ FL,?_,?_,?_⟩
 ·cases q:frz a with
  | none=>rfl
  | some x=>have:=out a x (F1 a x q);rw[show m' a=some o from e] at this;cases this
 ·exact⟨m,⟨o0,es,ep,r'.hfrz _ _ FL,rest⟩,fun i x v p q=>let ⟨cv,e1,e2⟩:=f i x v p q;⟨cv,e1,e2.tk tk⟩⟩
 ·intro i x c e
  refine bc fun z9=>?_
  obtain⟨p,q,o,ov,g,d,f⟩:=r.hown i x c e
  refine z9 ?_
  have FC:=hf c o q (.inr (.inr ⟨i,x,e⟩)) g
  exact⟨p,out _ _ FC,o,ov,r'.hfrz _ _ FC,d,fun v z=>let ⟨cv,e1,e2⟩:=f v z;⟨cv,e1,e2.tk tk⟩⟩
 ·intro i x c e
  refine bc fun z9=>?_
  obtain⟨o,ov,g,d,f⟩:=r.href i x c e
  refine z9 ?_
  exact⟨o,ov,g,d,fun v z=>let ⟨cv,e1,e2⟩:=f v z;⟨cv,e1,e2.tk tk⟩⟩
theorem zc6.of {f:Value}{vs:List V}{Q:V→Mem→Prop}{m:Mem} (h: ∀frz s cvs,Rp G frz m s→RVs s.heap cvs vs→wpAny (model G.prog G.w) A (call f cvs) (PR G frz s Q) NoE s):zc6 G A f vs Q m:=fun Γ frz σ s cvs _ r hm hv=>by
 subst hm
 exact Bu (h _ s cvs r.inn hv) (fun _ _ ⟨v,m,a,b,c,d⟩=>⟨v,m,a,r.back rfl b (fun _ _ q _ e=>yS.mpr ⟨q,e⟩) c,c,d⟩) fun _ _ x=>x
end
structure PC.run (G:GS) (A:Around) (P:PC):Prop where
 ok:P.ok G
 call: ∀n,n∈G.fns→∃f,nsIn G.K mainGlobals (Str.ofString n)=some (some f)∧keepIn G.K f=true∧∀vs Q m,P.call n vs Q m→zc6 G A f vs Q m
 meth: ∀n,n∈G.meths→∃f,findIn G.K (.ref P.cls) (Str.ofString n)=some (some (.ref f))∧isFn G.K (.ref f)=true∧plainGet G.K P.cls (Str.ofString n)=true∧keepIn G.K (.ref f)=true∧
  ∀vs Q m,P.meth n vs Q m→zc6 G A (.ref f) vs Q m
 loc: ∀v vs Q m,P.loc v vs Q m→∃a fo fd,v= .obj a∧m a=some (.fn fo)∧fo.data= .func fd∧zc6 G A (.ref a) vs Q m
structure GS.bi (G:GS):Prop where
 bi: ∀b:Bi,G.mg (Str.ofString b.name)=none∧G.mb (Str.ofString b.name)=some b.val
structure SC.ok (G:GS) (C:SC) (Γ:FE):Prop where
 cells: ∀(i:Nat) x,x∈C.cells→Γ.vars[i]? ≠some (x,.loc)
 fns: ∀n,n∈C.fns→n∈G.fns
 meths: ∀n,n∈C.meths→n∈G.meths
 vars: ∀(i:Nat) x r,C.vars[i]? =some (x,r)→∃k,Γ.vars[i]? =some (x,k)∧(r=false→∀c,k≠ .ref c)
 names: ∀x,C.names.lookup x=some .globalImplicit→Γ.env.kindOf x=some .globalImplicit
section
variable {G:GS}{A:Around}{Γ:FE}{frz:Frz}{σ:St}{s:Shared}
theorem PV.after {s₁ s':Shared}{Q:V→St→Prop}{cv:Value} (k:TK s.heap s₁.heap) (h:PV G Γ frz s₁ Q cv s'):PV G Γ frz s Q cv s':=
 let ⟨v,σ',a,b,c,d⟩:=h;⟨v,σ',a,b,k.trans c,d⟩
theorem PB.after {s₁ s':Shared}{Q:Bool→St→Prop}{b:Bool} (k:TK s.heap s₁.heap) (h:PB G Γ frz s₁ Q b s'):PB G Γ frz s Q b s':=
 let ⟨σ',b,c,d⟩:=h;⟨σ',b,k.trans c,d⟩
theorem PU.after {s₁ s':Shared}{Q:St→Prop}{b:Unit} (k:TK s.heap s₁.heap) (h:PU G Γ frz s₁ Q b s'):PU G Γ frz s Q b s':=
 let ⟨σ',b,c,d⟩:=h;⟨σ',b,k.trans c,d⟩
theorem PF.after {s₁ s':Shared}{Q:Fl→St→Prop}{f:Flow} (k:TK s.heap s₁.heap) (h:PF G Γ frz s₁ Q f s'):PF G Γ frz s Q f s':=
 let ⟨v,σ',a,b,c,d⟩:=h;⟨v,σ',a,b,k.trans c,d⟩
theorem PO.toPV {Q':V→Mem→Prop}{Q:V→St→Prop}{cv:Value}{s':Shared} (h:PO G Γ frz σ s Q' cv s') (q: ∀r m,Q' r m→Q r {σ with mem:=m}):PV G Γ frz s Q cv s':=
 let ⟨v,m,a,b,c,d⟩:=h;⟨v,_,a,b,c,q v m d⟩
theorem W.then {t:Sem Value}{Q:V→St→Prop}{post:Value→Shared→Prop} (h:W G A Γ t Q σ) (r:Rep G Γ frz σ s)
  (k: ∀cv v σ₁ s₁,RV s₁.heap cv v→Rep G Γ frz σ₁ s₁→TK s.heap s₁.heap→Q v σ₁→post cv s₁):wpAny (model G.prog G.w) A t post NoE s:=
 Bu (h frz s r) (fun cv s₁ ⟨v,σ₁,a,b,c,d⟩=>k cv v σ₁ s₁ a b c d) fun _ _ x=>x
theorem Ws.then {t:Sem (List Value)}{Q:List V→St→Prop}{post:List Value→Shared→Prop} (h:Ws G A Γ t Q σ) (r:Rep G Γ frz σ s)
  (k: ∀cv v σ₁ s₁,RVs s₁.heap cv v→Rep G Γ frz σ₁ s₁→TK s.heap s₁.heap→Q v σ₁→post cv s₁):wpAny (model G.prog G.w) A t post NoE s:=
 Bu (h frz s r) (fun cv s₁ ⟨v,σ₁,a,b,c,d⟩=>k cv v σ₁ s₁ a b c d) fun _ _ x=>x
theorem WB.then {t:Sem Bool}{Q:Bool→St→Prop}{post:Bool→Shared→Prop} (h:WB G A Γ t Q σ) (r:Rep G Γ frz σ s)
  (k: ∀b σ₁ s₁,Rep G Γ frz σ₁ s₁→TK s.heap s₁.heap→Q b σ₁→post b s₁):wpAny (model G.prog G.w) A t post NoE s:=
 Bu (h frz s r) (fun b s₁ ⟨σ₁,a,c,d⟩=>k b σ₁ s₁ a c d) fun _ _ x=>x
theorem z8h {v:V}{c:Const}{k:Nat}{pos:Pos}{Q:V→St→Prop} (h:zyi v c=true) (q:Q v σ):W G A Γ (eval (.Constant c k pos) Γ.env) Q σ:=fun frz s r=>by
 rw[arm_eval_Constant]
 cases v with
 | none=>cases (Bh.mp h);exact Aj ⟨_,_,.none,r,.refl _,q⟩
 | bool=>cases (Bh.mp h);exact Aj ⟨_,_,.bool _,r,.refl _,q⟩
 | int=>cases (Bh.mp h);exact wpAny_mkInt ⟨_,_,.int _ _,r.toks _,.refl _,q⟩
 | flt=>cases (Bh.mp h);exact Ac (wpAny_fresh (Aj ⟨_,_,.flt _ _,r.toks _,.refl _,q⟩))
 | str=>cases (Bh.mp h);exact wpAny_mkText ⟨_,_,.str _ _,r.toks _,.refl _,q⟩
 | tup=>exact absurd h Au
 | rng=>exact absurd h Au
 | obj=>exact absurd h Au
theorem zzl {i:Nat}{x:Str}{pos:Pos}{k:VK}{v:V}{Q:V→St→Prop} (ok:Γ.ok) (hx:Γ.vars[i]? =some (x,k)) (hv:σ.loc[i]? =some (some v)) (q:Q v σ):
  W G A Γ (eval (.Name x pos) Γ.env) Q σ:=fun frz s r=>by
 refine wpAny_Name ?_ (ok.dbg i x k hx).1
 cases k with
 | loc=>
  refine bc fun z9=>?_
  obtain⟨m,n,f⟩:=r.hns
  refine z9 ?_
  refine bc fun z9=>?_
  obtain⟨cv,e,rv⟩:=f i x v hx hv
  refine z9 ?_
  exact wpAny_loadName_local ok.fn (ok.loc i x hx) n e ⟨v,σ,rv,r,.refl _,q⟩
 | own c=>
  refine bc fun z9=>?_
  obtain⟨_,_,o,ov,g,d,f⟩:=r.hown i x c hx
  refine z9 ?_
  refine bc fun z9=>?_
  obtain⟨cv,e,rv⟩:=f v hv
  refine z9 ?_
  subst e
  refine bc fun z9=>?_
  obtain⟨a1,a2,_⟩:=ok.own i x c hx
  refine z9 ?_
  exact wpAny_loadName_cell ok.fn a1 a2 ⟨_,g,d⟩ ⟨v,σ,rv,r,.refl _,q⟩
 | ref c=>
  refine bc fun z9=>?_
  obtain⟨o,ov,g,d,f⟩:=r.href i x c hx
  refine z9 ?_
  refine bc fun z9=>?_
  obtain⟨cv,e,rv⟩:=f v hv
  refine z9 ?_
  subst e
  have g':=r.hfrz _ _ g
  obtain⟨a1,a2⟩:=ok.ref i x c hx
  rcases a1 with a1 | a1
  ·exact wpAny_loadName_cell ok.fn a1 a2 ⟨_,g',d⟩ ⟨v,σ,rv,r,.refl _,q⟩
  ·exact wpAny_loadName_free ok.fn a1 a2 ⟨_,g',d⟩ ⟨v,σ,rv,r,.refl _,q⟩ (ok.dbg i x _ hx).2
theorem zsg {e:Expr}{es:List Expr}{env:Env} (h:za3 e=true):starEach (e::es) env=(false,eval e env)::starEach es env:=by
 cases e<;>first | rfl | exact absurd h Au
theorem zeb {C:SC}{env:Env}: ∀{es:List Ex}{xs:List Expr},zu C es xs=true→starEach xs env=xs.map fun e=>(false,eval e env)
 | [],xs,h=>by rw[zbg h];rfl
 | a::as,xs,h=>by
  obtain⟨e,es,rfl,hp,_,h⟩:=yU h
  rw[zsg hp,zeb h];rfl
theorem zpf {e:Expr} (h:za3 e=true) (op:CmpOp):behindInMarks op e=false:=by
 cases e<;>first | rfl | exact absurd h Au
theorem zje {C:SC}{env:Env}: ∀{es:List Ex}{xs:List Expr} (ops:List CmpOp),zu C es xs=true→markedEach ops xs (evalEach xs env)=evalEach xs env
 | [],xs,ops,h=>by
  rw[zbg h]
  cases ops with
  | nil=>rfl
  | cons o os=>cases os<;>rfl
 | a::as,xs,ops,h=>by
  obtain⟨e,es,rfl,hp,_,h⟩:=yU h
  have ih:=fun os=>zje (env:=env) os h
  cases ops with
  | nil=>cases es<;>rfl
  | cons o os=>
   show markedEach (o::os) (e::es) (eval e env::evalEach es env)=eval e env::evalEach es env
   cases es with
   | nil=>
    cases os with
    | nil=>simp only[evalEach,markedEach,markedBehindIn_of_false (zpf hp o)]
    | cons o' os=>simp only[evalEach,markedEach]
   | cons e' es=>
    have q:=ih os
    cases os with
    | nil=>simp only[evalEach,markedEach]
    | cons o' os=>
     simp only[evalEach] at q ⊢
     simp only[markedEach] at q ⊢
     rw[q]
end
section
variable {G:GS}{A:Around}{Γ:FE}{frz:Frz}{σ:St}{s:Shared}
theorem zfo (pos:Pos) (env:Env) (xs:List Expr):backTo pos (xs.map fun e=>(false,eval e env))=xs.map fun e=>(false,eval e env):=by
 unfold backTo
 rw[List.map_map]
 apply List.map_congr_left
 intro e _;rfl
theorem zmy {f:Value}{xs:List Expr}{Q:List V→St→Prop} (h:Ws G A Γ (spliced (xs.map fun e=>(false,eval e Γ.env))) Q σ) (r:Rep G Γ frz σ s) {post:Args→Shared→Prop}
  (k: ∀cvs vs σ₁ s₁,RVs s₁.heap cvs vs→Rep G Γ frz σ₁ s₁→TK s.heap s₁.heap→Q vs σ₁→post ⟨cvs,[]⟩ s₁):
  wpAny (model G.prog G.w) A (evalArgs f true (xs.map fun e=>(false,eval e Γ.env)) []) post NoE s:=by
 cases xs with
 | nil=>
  unfold evalArgs
  show wpAny _ _ (spliced [] >>=_) _ _ s
  refine Ac (h.then r fun cvs vs σ₁ s₁ a b c d=>Ac (Aj ?_))
  refine Bt ?_
  exact Ac (Aj (Ac (Aj (Aj (k cvs vs σ₁ s₁ a b c d)))))
 | cons x xs=>exact Calls.evalArgs_plain (h.then r fun cvs vs σ₁ s₁ a b c d=>k cvs vs σ₁ s₁ a b c d)
noncomputable def Wn (G:GS) (A:Around) (Γ:FE) (n:Nat) (t:Sem (List Value)) (Q:List V→St→Prop) (σ:St):Prop:=
 ∀frz s,Rep G Γ frz σ s→wpAny (model G.prog G.w) A t (fun cvs s'=>cvs.length=n∧PVs G Γ frz s Q cvs s') NoE s
theorem Wn.ws {n:Nat}{t:Sem (List Value)}{Q:List V→St→Prop} (h:Wn G A Γ n t Q σ):Ws G A Γ t Q σ:=fun frz s r=>Bu (h frz s r) (fun _ _ q=>q.2) fun _ _ x=>x
theorem Wn.then {n:Nat}{t:Sem (List Value)}{Q:List V→St→Prop}{post:List Value→Shared→Prop} (h:Wn G A Γ n t Q σ) (r:Rep G Γ frz σ s)
  (k: ∀cv v σ₁ s₁,cv.length=n→RVs s₁.heap cv v→Rep G Γ frz σ₁ s₁→TK s.heap s₁.heap→Q v σ₁→post cv s₁):wpAny (model G.prog G.w) A t post NoE s:=
 Bu (h frz s r) (fun cv s₁ ⟨l,v,σ₁,a,b,c,d⟩=>k cv v σ₁ s₁ l a b c d) fun _ _ x=>x
theorem z5z {Q:List V→St→Prop} (q:Q [] σ):Wn G A Γ 0 (spliced []) Q σ:=fun frz s r=>Calls.spliced_nil ⟨rfl,[],σ,.nil,r,.refl _,q⟩
theorem z2c {n:Nat}{t:Sem Value}{rest:List (Bool×Sem Value)}{Q:List V→St→Prop} (h:W G A Γ t (fun v σ₁=>Wn G A Γ n (spliced rest) (fun vs σ₂=>Q (v::vs) σ₂) σ₁) σ):
  Wn G A Γ (n+1) (spliced ((false,t)::rest)) Q σ:=fun frz s r=>
 Calls.spliced_cons (h.then r fun cv v σ₁ s₁ a b c d=>d.then b fun cvs vs σ₂ s₂ l a' b' c' d'=>⟨by simp[l],v::vs,σ₂,.cons (a.tk c') a',b',c.trans c',d'⟩)
theorem zxt {x:Str}{pos:Pos}{f:Value}{post:Value→Shared→Prop} (gok:G.ok) (ok:Γ.ok) (r:Rep G Γ frz σ s) (hx:Γ.env.kindOf x=some .globalImplicit) (hd:(x==Str.ofString "__debug__")=false)
  (e:nsIn G.K mainGlobals x=some (some f)) (h:post f s):wpAny (model G.prog G.w) A (eval (.Name x pos) Γ.env) post NoE s:=by
 refine Calls.Name_function_global ok.fn hx ?_ hd
 refine Calls.loadGlobal_global (mg:=G.mg) ?_ (mg_of gok.k gok.g e) h
 rw[ok.glb]
 exact gok.g.keeps fun b o e=>r.hfrz _ _ (r.hbase _ _ e)
theorem ztf {b:Bi}{pos:Pos}{post:Value→Shared→Prop} (gok:G.ok) (gbi:G.bi) (ok:Γ.ok) (r:Rep G Γ frz σ s) (hx:Γ.env.kindOf (Str.ofString b.name)=some .globalImplicit) (hd:(Str.ofString b.name==Str.ofString "__debug__")=false)
  (h:post b.val s):wpAny (model G.prog G.w) A (eval (.Name (Str.ofString b.name) pos) Γ.env) post NoE s:=by
 refine Calls.Name_function_global ok.fn hx ?_ hd
 have k: ∀b o,G.base.get? b=some o→s.heap.get? b=some o:=fun b o e=>r.hfrz _ _ (r.hbase _ _ e)
 refine Calls.loadGlobal_builtin (mg:=G.mg) (mb:=G.mb) ?_ (gbi.bi b).1 ?_ (gbi.bi b).2 h
 ·rw[ok.glb];exact gok.g.keeps k
 ·rw[ok.bui];exact gok.b.keeps k
theorem zc8 (env:Env) (xs:List Expr):(xs.map fun e=>(false,eval e env)).any (·.1)=false:=by
 induction xs with
 | nil=>rfl
 | cons x xs ih=>trivial
theorem zyv {b:Bi}{pos:Pos}{args:List (Bool×Sem Value)}{post:Value→Shared→Prop}{s:Shared} (hp:args.any (·.1)=false)
  (h:wpAny (model G.prog G.w) A (evalArgs b.val true args []) (fun a s₁=>wpAny (model G.prog G.w) A (call b.val a.pos a.kw) post NoE s₁) NoE s):
  wpAny (model G.prog G.w) A (callWith pos b.val [] args []) post NoE s:=by
 cases b
 case range=>exact PyProof.Rows.callWith_type (T:="range") (first:=[]) hp h
 case list=>exact PyProof.Rows.callWith_type (T:="list") (first:=[]) hp h
 case len=>exact Calls.callWith_builtin (id:="len") (first:=[]) hp h
 case min=>exact Calls.callWith_builtin (id:="min") (first:=[]) hp h
 case max=>exact Calls.callWith_builtin (id:="max") (first:=[]) hp h
 case sum=>exact Calls.callWith_builtin (id:="sum") (first:=[]) hp h
 case chr=>exact Calls.callWith_builtin (id:="chr") (first:=[]) hp h
 case ord=>exact Calls.callWith_builtin (id:="ord") (first:=[]) hp h
theorem zdu (f:Str) (p pos:Pos) (xs:List Expr) (env:Env):eval (.Call (.Name f p) xs [] pos) env=(do
  callWith pos (←eval (.Name f p) env) [] (backTo pos (starEach xs env)) (backToKw pos (keywordEach [] env))):=rfl
theorem zwn {a:Addr}{fo:Obj}{fd:FuncData} (h:Heap) (e:h.get? a=some fo) (d:fo.data= .func fd): ∃k,(k=Keeper.frame∨k=Keeper.machine∨k=Keeper.boundFrame)∧Looks (model G.prog G.w) h (keeperOf (.ref a)) k:=by
 obtain⟨c,dd,dt,sl⟩:=fo
 cases d
 exact keeps_F (q:=a) h ⟨_,_,_,_,e⟩
theorem zsz {e:Expr}{Q:Bool→St→Prop} (h:W G A Γ (eval e Γ.env) (fun v σ₁=>zR σ₁.mem v fun b=>Q b σ₁) σ)
  (he:isTrue e Γ.env (eval e Γ.env)=(do let v ←eval e Γ.env;standAt e.pos;holding [v] (truthy v))):WB G A Γ (isTrue e Γ.env (eval e Γ.env)) Q σ:=fun frz s r=>by
 rw[he]
 refine Ac (h.then r fun cv v σ₁ s₁ a b c d=>Ac (wpAny_standAt (Bt ?_)))
 exact Bu (zot d b a) (fun b' s₂ ⟨p,q,t⟩=>⟨σ₁,p,c.trans q,t⟩) fun _ _ x=>x
theorem zvo {C:SC}{n:String}{x:Str} (hC:C.ok G Γ) (h:C.glob n x=true):x=Str.ofString n∧Γ.env.kindOf x=some .globalImplicit∧(x==Str.ofString "__debug__")=false:=by
 unfold SC.glob at h
 simp only[Cc,Bh,Bool.not_eq_true'] at h
 exact⟨h.1.1.symm,hC.names x h.1.2,h.2⟩
theorem z1w {C:SC}{i:Nat}{x:Str} (hC:C.ok G Γ) (h:C.is i x=true): ∃k,Γ.vars[i]? =some (x,k):=by
 unfold SC.is at h
 split at h
 ·rename_i y r e
  obtain⟨k,hk,_⟩:=hC.vars i y r e
  rw[Bh.mp h] at hk
  exact⟨k,hk⟩
 ·cases h
end
section
variable {G:GS}{A:Around}{Γ:FE}{frz:Frz}{σ:St}{s:Shared}
theorem zo7 {l:List (Option V)}{i j:Nat}{v u:V} (h:(l.set i (some v))[j]? =some (some u)):(i=j∧u=v)∨(i≠j∧l[j]? =some (some u)):=by
 rw[List.getElem?_set] at h
 split at h
 ·rename_i e
  split at h
  ·cases h;exact .inl ⟨e,rfl⟩
  ·cases h
 ·rename_i e;exact .inr ⟨e,h⟩
theorem ziy {h h':Heap}{p:Value→Prop}{u:V} (tk:TK h h') (f: ∃cu,p cu∧RV h cu u): ∃cu,p cu∧RV h' cu u:=f.elim fun cu e=>⟨cu,e.1,e.2.tk tk⟩
theorem zen {i j:Nat}{x y:Str}{k k':VK}{v u:V} (hx:Γ.vars[i]? =some (x,k)) (hy:Γ.vars[j]? =some (y,k')) (h:k≠k') (hu:(σ.set i v).loc[j]? =some (some u)):σ.loc[j]? =some (some u):=by
 rcases zo7 hu with ⟨rfl,_⟩ | ⟨_,hu⟩
 ·exact absurd (congrArg Prod.snd (Option.some.inj (hx.symm.trans hy))) h
 ·exact hu
theorem zpl {i:Nat}{x:Str}{k:VK}{v:V}{cv:Value} (ok:Γ.ok) (r:Rep G Γ frz σ s) (hx:Γ.vars[i]? =some (x,k)) (hk: ∀c,k≠ .ref c) (hv:RV s.heap cv v):
  wpAny (model G.prog G.w) A (storeName Γ.env x cv) (fun _ s'=>Rep G Γ frz (σ.set i v) s'∧TK s.heap s'.heap) NoE s:=by
 cases k with
 | ref c=>exact absurd rfl (hk c)
 | loc=>
  obtain⟨m,n,f⟩:=r.hns
  refine wpAny_storeName_local (ok.loc i x hx) n (fun h' hn hs=>?_) (by rw[ok.fn];rfl)
  have tk:TK s.heap h':=fun b o e im=>by
   by_cases hb:b=Γ.env.locals
   ·subst hb;exact absurd im (zeu n e)
   ·exact(hs.2 b hb).trans e
  refine⟨⟨let ⟨_,_,e⟩:=r.same;⟨h',_,by rw[e]⟩,r.hbase,r.hkeep,fun b o e=>(hs.2 b (r.frz_ne e)).trans (r.hfrz b o e),fun a o e=>(r.hmem a o e).keep tk fun y ey=>(hs.2 a (r.mem_ne e)).trans ey,r.hmemF,r.hab,r.hlf,r.hlm,?_,?_,?_⟩,tk⟩
  ·refine⟨_,hn,fun j y u hy hu=>?_⟩
   rcases zo7 hu with ⟨rfl,rfl⟩ | ⟨hne,hu⟩
   ·rw[hx] at hy
    cases hy
    exact⟨cv,by simp,hv.tk tk⟩
   ·obtain⟨cu,e1,e2⟩:=f j y u hy hu
    exact⟨cu,(if_neg fun q=>hne (ok.names _ _ _ _ _ hx (q▸hy))).trans e1,e2.tk tk⟩
  ·intro j y c hy
   obtain⟨p,q,o,ov,g,d,f'⟩:=r.hown j y c hy
   exact⟨p,q,o,ov,(hs.2 c (ok.own j y c hy).2.2).trans g,d,fun u hu=>ziy tk (f' u (zen hx hy (fun e=>nomatch e) hu))⟩
  ·intro j y c hy
   obtain⟨o,ov,e1,d,f'⟩:=r.href j y c hy
   exact⟨o,ov,e1,d,fun u hu=>ziy tk (f' u (zen hx hy (fun e=>nomatch e) hu))⟩
 | own c=>
  obtain⟨p,q,o,ov,g,d,f⟩:=r.hown i x c hx
  obtain⟨a1,a2,a3⟩:=ok.own i x c hx
  refine wpAny_storeName_cell ok.fn a1 a2 ⟨o,g,d⟩ fun h' hc hs=>?_
  obtain⟨o',g',d'⟩:=hc
  have tk:TK s.heap h':=fun b ob e im=>by
   by_cases hb:b=c
   ·subst hb
    rw[g] at e;cases e
    rcases im with ⟨_,_,_,q⟩ | ⟨_,_,q,_⟩ | ⟨_,_,_,q,_⟩<;>rw[d] at q<;>cases q
   ·exact(hs.2 b hb).trans e
  have fne: ∀b ob,frz b=some ob→b≠c:=fun b ob e z=>by subst z;rw[p] at e;cases e
  have mne: ∀b ob,σ.mem b=some ob→b≠c:=fun b ob e z=>by subst z;rw[q] at e;cases e
  refine⟨⟨let ⟨_,_,e⟩:=r.same;⟨h',_,by rw[e]⟩,r.hbase,r.hkeep,fun b o e=>(hs.2 b (fne b o e)).trans (r.hfrz b o e),fun a o e=>(r.hmem a o e).keep tk fun y ey=>(hs.2 a (mne a o e)).trans ey,r.hmemF,r.hab,r.hlf,r.hlm,?_,?_,?_⟩,tk⟩
  ·obtain⟨m,n,f'⟩:=r.hns
   exact⟨m,n.sameBut hs (Ne.symm a3),fun j y u hy hu=>ziy tk (f' j y u hy (zen hx hy (fun e=>nomatch e) hu))⟩
  ·intro j y c' hy
   obtain⟨p',q',o₂,ov',g₂,d₂,f'⟩:=r.hown j y c' hy
   by_cases hcc:c'=c
   ·subst hcc
    have hij:i=j:=ok.cells _ _ _ _ _ hx hy
    subst hij
    refine⟨p',q',o',some cv,g',d',fun u hu=>?_⟩
    rcases zo7 hu with ⟨_,rfl⟩ | ⟨hne,hu⟩
    ·exact⟨cv,rfl,hv.tk tk⟩
    ·exact absurd rfl hne
   ·refine⟨p',q',o₂,ov',(hs.2 c' hcc).trans g₂,d₂,fun u hu=>?_⟩
    exact ziy tk (f' u (zen hx hy (fun e=>by injection e with e;exact hcc e.symm) hu))
  ·intro j y c' hy
   obtain⟨o,ov,e1,d,f'⟩:=r.href j y c' hy
   exact⟨o,ov,e1,d,fun u hu=>ziy tk (f' u (zen hx hy (fun e=>nomatch e) hu))⟩
theorem zzn {i:Nat}{x:Str}{k:VK}{v:V}{cv:Value} (ok:Γ.ok) (r:Rep G Γ frz σ s) (hx:Γ.vars[i]? =some (x,k)) (hk: ∀c,k≠ .ref c) (hv:RV s.heap cv v):
  wpAny (model G.prog G.w) A (bindName Γ.env x cv) (fun _ s'=>Rep G Γ frz (σ.set i v) s'∧TK s.heap s'.heap) NoE s:=
 wpAny_bindName (zpl ok r hx hk hv)
theorem zqt {n:Nat}{cv:Value}{vs:List V}{post:List Value→Shared→Prop} (hA:Rm A) (r:Rep G Γ frz σ s) (hv:RV s.heap cv (.tup vs)) (hn:vs.length=n)
  (k: ∀cvs s₁,RVs s₁.heap cvs vs→Rep G Γ frz σ s₁→TK s.heap s₁.heap→post cvs s₁):wpAny (model G.prog G.w) A (unpackItems cv n none) post NoE s:=by
 cases hv with
 | @tup a arr k' _ g rs=>
 have hz:=rs.length
 simp only[Bx] at hz
 have e:n=arr.size:=by lia
 rw[e]
 refine unpackItems_tuple hA.hd ⟨_,g,rfl,_,rfl⟩ fun h' hk=>?_
 have kk: ∀b o,s.heap.get? b=some o→h'.get? b=some o:=fun b o e=>hk b o (Nat.ne_of_lt (Heap.lt_size e)) e
 exact k _ _ (rs.tk (.of kk)) (r.grow (tk:=s.toks) kk) (.of kk)
end
inductive IterAt (h:Heap):Obj→(Mem→Prop)→List V→Prop
 | list {o:Obj} {l:Addr} {i:Nat} {vs:List V}:o.cls= .type "list_iterator"→o.data= .fields #[.ref l,.int i 0]→IterAt h o (fun m=>m l=some (.list vs)) (vs.drop i)
 | tup {o:Obj} {t:Addr} {i:Nat} {arr:Array Value} {n:Nat} {vs:List V}:o.cls= .type "tuple_iterator"→o.data= .fields #[.ref t,.int i 0]→
   h.get? t=some {cls:= .type "tuple",data:= .seq arr n}→RVs h arr.toList vs→IterAt h o (fun _=>True) (vs.drop i)
 | rng {x c:Int} {n:Nat}:IterAt h {cls:= .type "range_iterator",dict:=none,data:= .fields #[rawInt x,rawInt n,rawInt c],slots:=#[]} (fun _=>True) (zdt x c n)
 | str {o:Obj} {x:Tx} {t:Tok} {i:Nat}:o.cls= .type (strIterType (mkS x))→o.data= .fields #[.str (mkS x) t,.int i 0]→IterAt h o (fun _=>True) ((x.drop i).map fun c=>V.str [c])
theorem IterAt.tk {h h':Heap} (k:TK h h') {o:Obj}{g:Mem→Prop}{vs:List V} (i:IterAt h o g vs):IterAt h' o g vs:=by
 cases i with
 | list a b=>exact .list a b
 | tup a b c d=>exact .tup a b (k _ _ c (.inl ⟨rfl,_,_,rfl⟩)) (d.tk k)
 | rng=>exact .rng
 | str a b=>exact .str a b
theorem zlh {o:Obj}{n:String} (h:o.cls= .type n) (h1:n≠"tuple") (h2:n≠"range") {v:Value}{i:Int}{xs:List Value} (h3:o.data= .fields (#[v,.int i 0]++xs.toArray)): ¬Imm o:=fun q=>by
 rcases q with ⟨q,_⟩ | ⟨q,_⟩ | ⟨x,ys,t,q,e⟩
 ·rw[h] at q;injection q with q;exact h1 q
 ·rw[h] at q;injection q with q;exact h2 q
 ·rw[h3] at q;cases q;simp at e
theorem IterAt.notImm {h:Heap}{o:Obj}{g:Mem→Prop}{vs:List V} (i:IterAt h o g vs): ¬Imm o:=by
 cases i with
 | list a b=>exact zlh a (by decide) (by decide) (xs:=[]) b
 | tup a b c d=>exact zlh a (by decide) (by decide) (xs:=[]) b
 | rng=>exact zlh rfl (by decide) (by decide) (xs:=[_]) rfl
 | str a b=>exact zlh a (by unfold strIterType;split<;>decide) (by unfold strIterType;split<;>decide) (xs:=[]) b
section
variable {G:GS}{A:Around}{Γ:FE}{frz:Frz}{σ:St}{s:Shared}
noncomputable def zdv (G:GS) (Γ:FE) (frz:Frz) (σ:St) (s:Shared) (it:Addr) (g:Mem→Prop):List V→Option Value→Shared→Prop
 | [],none,s'=>Rep G Γ frz σ s'∧TK s.heap s'.heap
 | v::r,some cv,s'=>RV s'.heap cv v∧Rep G Γ frz σ s'∧TK s.heap s'.heap∧∃o,s'.heap.get? it=some o∧IterAt s'.heap o g r
 | _,_,_=>False
theorem zli (r:Rep G Γ frz σ s) {it:Addr}{o:Obj}{g:Mem→Prop}{v:V}{vs:List V}{cv:Value} (d:Aside G Γ frz σ it) (ho:s.heap.get? it=some o) (ni: ¬Imm o) {h':Heap}{tk:Nat} (hs:Heap.SameBut it s.heap h')
  (k:TK s.heap h'→RV h' cv v∧∃o,h'.get? it=some o∧IterAt h' o g vs):zdv G Γ frz σ s it g (v::vs) (some cv) {s with heap:=h',toks:=tk}:=by
 obtain⟨r',t⟩:=r.aside d ho ni (h':=h') (tk:=tk) fun b o hb e=>(hs.2 b hb).trans e
 exact⟨(k t).1,r',t,(k t).2⟩
theorem znd (r:Rep G Γ frz σ s) {it:Addr}{o:Obj}{g:Mem→Prop} (d:Aside G Γ frz σ it) (ho:s.heap.get? it=some o) (ni: ¬Imm o) {h':Heap} (hs:Heap.ExtBut it s.heap h'):zdv G Γ frz σ s it g [] none {s with heap:=h'}:=
 r.aside d ho ni (h':=h') (tk:=s.toks) hs
theorem zyh {α β:Type}{l:List α}{i:Nat}{f:α→β} (h: ¬i<l.length):(l.drop i).map f=[]:=by rw[List.drop_of_length_le (Az h)];rfl
theorem z07 (hA:Rm A) (r:Rep G Γ frz σ s) {it l:Addr}{o:Obj}{i:Nat}{vs:List V} (d:Aside G Γ frz σ it) (ho:s.heap.get? it=some o) (ni: ¬Imm o) (a:o.cls= .type "list_iterator") (b:o.data= .fields #[.ref l,.int i 0]) (hg:σ.mem l=some (.list vs)):
  wpAny (model G.prog G.w) A (pyNext (.ref it)) (zdv G Γ frz σ s it (fun m=>m l=some (.list vs)) (vs.drop i)) NoE s:=by
 cases r.hmem l _ hg with
 | @list arr n _ e rv=>
 have hl:s.heap.IsList l arr:=⟨_,e,rfl,n,rfl⟩
 have hz:=rv.length
 rw[Bx] at hz
 by_cases hi:i<vs.length
 ·obtain⟨cv,e1,e2⟩:=rv.get (i:=i) (x:=vs[i]) (Ay hi)
  rw[Bw hi]
  refine wpAny_pyNext_list_item ⟨o,ho,a,b⟩ hl (x:=cv) (by rw[←Array.getElem?_toList];exact e1) fun h' hit' hs=>zli r d ho ni hs fun t=>⟨e2.tk t,?_⟩
  exact hit'.elim fun o' q=>⟨o',q.1,.list q.2.1 q.2.2⟩
 ·rw[List.drop_of_length_le (Az hi)]
  exact wpAny_pyNext_list_end hA.hd ⟨o,ho,a,b⟩ hl (Array.getElem?_eq_none (hz▸Az hi)) fun h' hs=>znd r d ho ni hs
theorem z6o (hA:Rm A) (r:Rep G Γ frz σ s) {it l:Addr}{o:Obj}{i:Nat}{arr:Array Value}{n:Nat}{vs:List V} (d:Aside G Γ frz σ it) (ho:s.heap.get? it=some o) (ni: ¬Imm o) (a:o.cls= .type "tuple_iterator") (b:o.data= .fields #[.ref l,.int i 0])
  (e:s.heap.get? l=some {cls:= .type "tuple",data:= .seq arr n}) (rv:RVs s.heap arr.toList vs):wpAny (model G.prog G.w) A (pyNext (.ref it)) (zdv G Γ frz σ s it (fun _=>True) (vs.drop i)) NoE s:=by
 have hl:IsTup s.heap l arr:=⟨_,e,rfl,n,rfl⟩
 have hz:=rv.length
 rw[Bx] at hz
 by_cases hi:i<vs.length
 ·obtain⟨cv,e1,e2⟩:=rv.get (i:=i) (x:=vs[i]) (Ay hi)
  rw[Bw hi]
  refine next_tuple_item ⟨o,ho,a,b⟩ hl (x:=cv) (by rw[←Array.getElem?_toList];exact e1) fun h' hit' hs=>zli r d ho ni hs fun t=>⟨e2.tk t,?_⟩
  exact hit'.elim fun o' q=>⟨o',q.1,.tup q.2.1 q.2.2 (t _ _ e (.inl ⟨rfl,_,_,rfl⟩)) (rv.tk t)⟩
 ·rw[List.drop_of_length_le (Az hi)]
  exact next_tuple_end hA.hd ⟨o,ho,a,b⟩ hl (Array.getElem?_eq_none (hz▸Az hi)) fun h' hs=>znd r d ho ni hs
theorem z5w {x:Str}:strIterType x="str_ascii_iterator"∨strIterType x="str_iterator":=by
 unfold strIterType;split
 ·exact .inl rfl
 ·exact .inr rfl
theorem z5u (hA:Rm A) (r:Rep G Γ frz σ s) {it:Addr}{o:Obj}{i:Nat}{x:Tx}{t:Tok} (d:Aside G Γ frz σ it) (ho:s.heap.get? it=some o) (ni: ¬Imm o) (a:o.cls= .type (strIterType (mkS x))) (b:o.data= .fields #[.str (mkS x) t,.int i 0]):
  wpAny (model G.prog G.w) A (pyNext (.ref it)) (zdv G Γ frz σ s it (fun _=>True) ((x.drop i).map fun c=>V.str [c])) NoE s:=by
 have hx: ∀j:Nat,(mkS x).cps[j]? =(x[j]?).map Char.toNat:=fun j=>by simp
 have ty:=z5w (x:=mkS x)
 by_cases hi:i<x.length
 ·have hc:(mkS x).cps[i]? =some (x[i]).toNat:=by rw[hx,Ay hi];rfl
  rw[Bw hi,List.map_cons]
  have fin: ∀h',(∃o,h'.get? it=some o∧o.cls= .type (strIterType (mkS x))∧o.data= .fields #[.str (mkS x) t,.int ((i+1:Nat):Int) 0])→Heap.SameBut it s.heap h'→
    zdv G Γ frz σ s it (fun _=>True) (V.str [x[i]]::(x.drop (i+1)).map fun c=>V.str [c]) (some (.str ⟨#[(x[i]).toNat]⟩ s.toks)) {s with heap:=h',toks:=s.toks+1}:=fun h' hit' hs=>
   zli r d ho ni hs fun _=>⟨.str [x[i]] _,hit'.elim fun o' q=>⟨o',q.1,.str q.2.1 q.2.2⟩⟩
  rcases ty with st | st<;>rw[st] at a fin
  ·exact wpAny_pyNext_ascii_item ⟨o,ho,a,b⟩ hc fun h' hit' hs=>fin h' hit' hs
  ·exact wpAny_pyNext_wide_item ⟨o,ho,a,b⟩ hc fun h' hit' hs=>fin h' hit' hs
 ·have hc:(mkS x).cps[i]? =none:=by rw[hx,List.getElem?_eq_none (Az hi)];rfl
  rw[zyh hi]
  rcases ty with st | st<;>rw[st] at a
  ·exact wpAny_pyNext_ascii_end hA.hd ⟨o,ho,a,b⟩ hc fun h' hs=>znd r d ho ni hs
  ·exact wpAny_pyNext_wide_end hA.hd ⟨o,ho,a,b⟩ hc fun h' hs=>znd r d ho ni hs
theorem ziq (hA:Rm A) (r:Rep G Γ frz σ s) {it:Addr}{o:Obj}{g:Mem→Prop}{vs:List V} (d:Aside G Γ frz σ it) (ho:s.heap.get? it=some o) (i:IterAt s.heap o g vs) (hg:g σ.mem):
  wpAny (model G.prog G.w) A (pyNext (.ref it)) (zdv G Γ frz σ s it g vs) NoE s:=by
 have ni:=i.notImm
 cases i with
 | list a b=>exact z07 hA r d ho ni a b hg
 | tup a b e rv=>exact z6o hA r d ho ni a b e rv
 | @rng x c n=>
  cases n with
  | zero=>exact wpAny_pyNext_range_end hA.hd ho (Int.le_refl 0) fun h' hs=>znd r d ho ni hs
  | succ n=>
   refine wpAny_pyNext_range_item ho (by exact zm 4300668977 rfl) fun h' hit' hs=>zli r d ho ni hs fun _=>⟨.int _ _,_,hit',?_⟩
   rw[show(((n+1:Nat):Int)-1)=(n:Int) by exact Ad (zm 8280965740080 rfl) (zm 35459616480816 rfl)]
   exact .rng
 | str a b=>exact z5u hA r d ho ni a b
noncomputable def zp4 (G:GS) (Γ:FE) (frz:Frz) (σ:St) (s:Shared) (g:Mem→Prop) (vs:List V):Value→Shared→Prop:=
 fun cv s'=> ∃it o,cv= .ref it∧Rep G Γ frz σ s'∧TK s.heap s'.heap∧Aside G Γ frz σ it∧s'.heap.get? it=some o∧IterAt s'.heap o g vs
theorem zfy (r:Rep G Γ frz σ s) {o:Obj}{g:Mem→Prop}{vs:List V} (fr:o.isFreed=false) (i:IterAt s.heap o g vs):zp4 G Γ frz σ s g vs (.ref s.heap.objs.size) {s with heap:=s.heap.push o}:=by
 have k: ∀b ob,s.heap.get? b=some ob→(s.heap.push o).get? b=some ob:=fun b ob e=>Heap.get?_push_of_some _ e
 exact⟨_,o,rfl,r.grow (tk:=s.toks) k,.of k,r.asideNew (Al _),Heap.get?_push_size _ fr,i.tk (.of k)⟩
theorem zhr (a b:Int) {c:Int} (h0:0<c):0≤Builtin.Range.rangeSize a b c:=by
 unfold Builtin.Range.rangeSize
 rw[if_pos h0]
 split
 ·have:=Int.ediv_nonneg (a:=b-a-1) (b:=c) (by lia) (by exact zrv 550158532641 rfl h0)
  exact zrv 4509097588228128 rfl this
 ·exact zqp 48 rfl
theorem ztj {a b c:Int} (ha:zr a) (hb:zr b) (hc:zr c) (h0:0<c):Builtin.Range.small a b c=true:=by
 have h1:=zhr a b h0
 have h2:Builtin.Range.rangeSize a b c≤2000000000:=by
  unfold Builtin.Range.rangeSize
  rw[if_pos h0]
  unfold zr at *
  split
  ·have:(b-a-1)/c≤b-a-1:=by
    have:=Int.ediv_le_self (a:=b-a-1) c (by lia)
    omega
   exact ar03 26723568010873266841008566985713250980116463494949816058378592700337185 rfl ha.1 hb.2 this
  ·exact zqp 1116028273550164016 rfl
 unfold zr at *
 unfold Builtin.Range.small Builtin.Range.rangeFitsLong
 simp only[Cc,Ca,decide_eq_true_eq,Bh]
 refine⟨⟨⟨⟨⟨?_,?_⟩,⟨?_,?_⟩⟩,⟨?_,?_⟩⟩,⟨?_,?_⟩⟩,.inr ?_⟩<;>first | grind | skip
 rw[if_pos h0]
 simp only[Cc,decide_eq_true_eq]
 grind
theorem zno (r:Rep G Γ frz σ s) {cv:Value}{v:V} (hv:RV s.heap cv v) {K:List V→(Mem→Prop)→Prop} (w:za5 σ.mem v K):
  ∃vs g,K vs g∧wpAny (model G.prog G.w) A (pyIter cv) (zp4 G Γ frz σ s g vs) NoE s:=by
 cases hv with
 | none=>exact w.elim
 | bool=>exact w.elim
 | int=>exact w.elim
 | flt=>exact w.elim
 | str x t=>exact⟨_,_,w.2,wpAny_pyIter_strU (zfy r rfl (.str (i:=0) rfl rfl))⟩
 | tup e rv=>exact⟨_,_,w.2,iter_tuple ⟨_,e,rfl,_,rfl⟩ (zfy r rfl (.tup (i:=0) rfl rfl e rv))⟩
 | @rng l a b c t u v e=>
  obtain⟨h1,h2,h3,h4,w⟩:=w
  refine⟨_,_,w,wpAny_pyIter_range e (ztj h1 h2 h3 h4) ?_⟩
  have hn:(Builtin.Range.rangeSize a b c)=((Builtin.Range.rangeSize a b c).toNat:Int):=(Int.toNat_of_nonneg (zhr a b h4)).symm
  rw[hn]
  exact zfy r rfl .rng
 | obj a=>
  obtain⟨vs,hm,_,w⟩:=w
  cases r.hmem a _ hm with
  | @list arr n _ e rv=>exact⟨_,_,w,wpAny_pyIter_list ⟨_,e,rfl,n,rfl⟩ (zfy r rfl (.list (i:=0) rfl rfl))⟩
theorem zk6 {E:Value→Shared→Prop}{target:Expr}{it:Addr}{cv:Value}{o:Obj}{g:Mem→Prop}{vs:List V}{post:Unit→Shared→Prop} (ho:s.heap.get? it=some o) (i:IterAt s.heap o g vs) (q:post () s):
  wpAny (model G.prog G.w) A (letOwnedTupleGo target (.ref it) cv) post E s:=by
 have hh: ∃n fs,o.cls= .type n∧o.data= .fields fs∧(["enumerate","zip","dict_itemiterator","dict_reverseitemiterator","odict_iterator","itertools.zip_longest","itertools.pairwise"].contains n)=false:=by
  cases i with
  | list a b=>exact⟨_,_,a,b,by decide⟩
  | tup a b _ _=>exact⟨_,_,a,b,by decide⟩
  | rng=>exact⟨_,_,rfl,rfl,by decide⟩
  | str a b=>refine⟨_,_,a,b,?_⟩;unfold strIterType;split<;>decide
 obtain⟨n,fs,hc,hd,hn⟩:=hh
 have main:wpAny (model G.prog G.w) A (do
  let (.ref r,.ref a):=(Value.ref it,cv) | return
  let o ←load r
  match o.cls,o.data with
  | .type n,.fields vs=>
   if ["enumerate","zip","dict_itemiterator","dict_reverseitemiterator","odict_iterator","itertools.zip_longest","itertools.pairwise"].contains n&&vs[0]? ==some (rawInt a) then
    rule "for.unpacks-the-owned-tuple"
    updateField r 0 .none
  | _,_=>pure ()) post E s:=by
  cases cv with
  | ref b=>
   refine Ac (wpAny_load ho ?_)
   rw[hc,hd]
   dsimp only
   rw[hn,Bool.false_and,if_neg (by decide)]
   exact Aj q
  | _=>exact Aj q
 cases target<;>first | exact main | exact Aj q
end
theorem zmt {C:SC}{xs:List Expr} (h:zg4 C [] xs=true):xs=[]:=by
 cases xs with
 | nil=>rfl
 | cons=>cases h
theorem zk4 {C:SC}{i:Nat}{is:List Nat}{xs:List Expr} (h:zg4 C (i::is) xs=true): ∃n p es,xs= .Name n p::es∧C.isW i n=true∧zg4 C is es=true:=by
 cases xs with
 | nil=>cases h
 | cons e es=>
  exact zeq (e:=e) (K:=fun x=>C.isW i x&&zg4 C is es) (M:=fun e=> ∃n p es',e::es= .Name n p::es'∧C.isW i n=true∧zg4 C is es'=true) h fun n p q=>⟨n,p,es,rfl,zb q⟩
section
variable {G:GS}{A:Around}{Γ:FE}{frz:Frz}{σ:St}{s:Shared}
theorem zt3 {C:SC}{i:Nat}{x:Str} (hC:C.ok G Γ) (h:C.isW i x=true): ∃k,Γ.vars[i]? =some (x,k)∧∀c,k≠ .ref c:=by
 unfold SC.isW at h
 split at h
 ·rename_i y r e
  simp only[Cc,Bh,Bool.not_eq_true'] at h
  obtain⟨rfl,rfl⟩:=h
  obtain⟨k,a,b⟩:=hC.vars _ _ _ e
  exact⟨k,a,b rfl⟩
 ·cases h
noncomputable def zpe (G:GS) (A:Around) (Γ:FE) (f:Value→Sem Unit) (i:Nat):Prop:=
 ∀frz σ s v cv,Rep G Γ frz σ s→RV s.heap cv v→wpAny (model G.prog G.w) A (f cv) (fun _ s'=>Rep G Γ frz (σ.set i v) s'∧TK s.heap s'.heap) NoE s
inductive Bs (G:GS) (A:Around) (Γ:FE):List (Value→Sem Unit)→List Nat→Prop
 | nil:Bs G A Γ [] []
 | cons {f i fs is}:zpe G A Γ f i→Bs G A Γ fs is→Bs G A Γ (f::fs) (i::is)
theorem Bs.length {fs:List (Value→Sem Unit)}{is:List Nat} (b:Bs G A Γ fs is):fs.length=is.length:=by
 induction b with
 | nil=>rfl
 | cons _ _ ih=>simp[ih]
theorem Bs.append {fs fs':List (Value→Sem Unit)}{is is':List Nat} (b:Bs G A Γ fs is) (c:Bs G A Γ fs' is'):Bs G A Γ (fs++fs') (is++is'):=by
 induction b with
 | nil=>exact c
 | cons h _ ih=>exact .cons h ih
theorem Bs.reverse {fs:List (Value→Sem Unit)}{is:List Nat} (b:Bs G A Γ fs is):Bs G A Γ fs.reverse is.reverse:=by
 induction b with
 | nil=>exact .nil
 | cons h _ ih=>rw[List.reverse_cons,List.reverse_cons];exact ih.append (.cons h .nil)
theorem RVs.reverse {h:Heap}: ∀{cvs:List Value}{vs:List V},RVs h cvs vs→RVs h cvs.reverse vs.reverse
 | _,[],r=>r.e0 .nil
 | _,_::_,r=>r.eC (N:=fun cs=>RVs h cs.reverse _) fun _ _ a b=>by rw[List.reverse_cons,List.reverse_cons];exact b.reverse.append (.one a)
theorem zp3 {fs:List (Value→Sem Unit)}{is:List Nat} (b:Bs G A Γ fs is): ∀{cvs:List Value}{vs:List V}{σ:St}{s:Shared}{post:Unit→Shared→Prop},Rep G Γ frz σ s→RVs s.heap cvs vs→is.length=vs.length→
  (∀s',Rep G Γ frz (σ.setAll is vs) s'→TK s.heap s'.heap→post () s')→wpAny (model G.prog G.w) A (assignInOrder fs cvs) post NoE s:=by
 induction b with
 | nil=>
  intro cvs vs σ s post r hv hl k
  cases vs with
  | nil=>cases hv;exact Aj (k s r (.refl _))
  | cons=>simp at hl
 | cons h _ ih=>
  intro cvs vs σ s post r hv hl k
  cases hv with
  | nil=>simp at hl
  | cons a rs=>
   refine Ac (Bt (Bu (h _ _ _ _ _ r a) (fun _ s₁ ⟨r₁,t₁⟩=>?_) fun _ _ x=>x))
   exact ih r₁ (rs.tk t₁) (by simpa using hl) fun s' r' t'=>k s' r' (t₁.trans t')
theorem zho {C:SC}{i:Nat}{x:Str}{pos:Pos} (ok:Γ.ok) (hC:C.ok G Γ) (h:C.isW i x=true):zpe G A Γ (assign (.Name x pos) Γ.env) i:=fun frz σ s v cv r hv=>by
 obtain⟨k,hx,hk⟩:=zt3 hC h
 rw[arm_assign_Name]
 exact Ac (wpAny_standAt (zzn ok r hx hk hv))
theorem zse {C:SC}{i:Nat}{x:Str} (ok:Γ.ok) (hC:C.ok G Γ) (h:C.isW i x=true):zpe G A Γ (bindName Γ.env x) i:=fun frz σ s v cv r hv=>by
 obtain⟨k,hx,hk⟩:=zt3 hC h
 exact zzn ok r hx hk hv
theorem zqu {C:SC} (ok:Γ.ok) (hC:C.ok G Γ): ∀{is:List Nat}{xs:List Expr},zg4 C is xs=true→Bs G A Γ ((assignEach xs Γ.env).map (·.2)) is∧(assignEach xs Γ.env).findIdx? (·.1)=none
 | [],xs,h=>by rw[zmt h];exact⟨.nil,rfl⟩
 | i::is,xs,h=>by
  obtain⟨n,pos,es,rfl,h1,h2⟩:=zk4 h
  obtain⟨a,b⟩:=zqu ok hC h2
  have e:assignEach (.Name n pos::es) Γ.env=(false,assign (.Name n pos) Γ.env)::assignEach es Γ.env:=rfl
  refine⟨?_,?_⟩
  ·rw[e];exact .cons (zho ok hC h1) a
  ·rw[e,List.findIdx?_cons,b];rfl
noncomputable def yX (f:Str→Pos→Bool):Expr→Option Str
 | .Name id pos=>if f id pos then some id else none
 | _=>none
theorem zpx {C:SC} (ok:Γ.ok) (hC:C.ok G Γ) (f:Str→Pos→Bool): ∀{is:List Nat}{xs:List Expr},zg4 C is xs=true→(xs.filterMap (yX f)).length=xs.length→Bs G A Γ ((xs.filterMap (yX f)).map (bindName Γ.env)) is
 | [],xs,h,_=>by rw[zmt h];exact .nil
 | i::is,xs,h,hf=>by
  obtain⟨n,pos,es,rfl,h1,h2⟩:=zk4 h
  have:=List.length_filterMap_le (yX f) es
  rw[List.filterMap_cons] at hf ⊢
  unfold yX at hf ⊢
  dsimp only at hf ⊢
  by_cases c:f n pos=true
  ·rw[if_pos c] at hf ⊢
   have hh:(es.filterMap (yX f)).length+1=es.length+1:=hf
   exact .cons (zse ok hC h1) (zpx ok hC f h2 (by exact Ai (ze 4952567644712 rfl this) (ze 5193143506293494827 rfl hh)))
  ·rw[if_neg c] at hf ⊢
   have hh:(es.filterMap (yX f)).length=es.length+1:=hf
   omega
theorem zt5 {C:SC}{i:Nat}{e:Expr} (ok:Γ.ok) (hC:C.ok G Γ) (h:(zcw e fun n=>C.isW i n)=true) {v:V}{cv:Value}{Q:St→Prop}{σ:St} (w:Q (σ.set i v))
  (r:Rep G Γ frz σ s) (hv:RV s.heap cv v):wpAny (model G.prog G.w) A (assign e Γ.env cv) (PU G Γ frz s Q) NoE s:=
 zeq (e:=e) (K:=fun n=>C.isW i n) (M:=fun e=>wpAny (model G.prog G.w) A (assign e Γ.env cv) (PU G Γ frz s Q) NoE s) h fun n p q=>Bu (zho ok hC q _ _ _ _ _ r hv) (fun _ s₁ ⟨a,b⟩=>⟨_,a,b,w⟩) fun _ _ x=>x
theorem zz5 {C:SC}{is:List Nat}{e:Expr} (hA:Rm A) (ok:Γ.ok) (hC:C.ok G Γ) (h:(isTup e fun xs=>zf5 is&&zg4 C is xs)=true) {v:V}{cv:Value}{Q:St→Prop}{σ:St} (w:match v with | .tup vs=>vs.length=is.length∧Q (σ.setAll is vs) | _=>False)
  (r:Rep G Γ frz σ s) (hv:RV s.heap cv v):wpAny (model G.prog G.w) A (assign e Γ.env cv) (PU G Γ frz s Q) NoE s:=
 zlv (e:=e) (K:=fun xs=>zf5 is&&zg4 C is xs) (M:=fun e=>wpAny (model G.prog G.w) A (assign e Γ.env cv) (PU G Γ frz s Q) NoE s) h fun xs k p q=>by
  obtain⟨b1,b2⟩:=zqu (A:=A) ok hC (zb q).2
  obtain⟨vs,rfl,hl,w⟩:=ztv w
  rw[arm_assign_Tuple]
  refine Ac (wpAny_standAt ?_)
  unfold unpack
  rw[b2]
  have hn:=b1.length
  rw[Ar] at hn
  exact Ac (Bt (zqt hA r hv (hl.trans hn.symm) fun cvs s₁ rs r₁ t₁=>zp3 b1 r₁ rs hl.symm fun s' r' t'=>⟨_,r',t₁.trans t',w⟩))
theorem zxb {C:SC}{one:Bool}{is:List Nat}{e:Expr} (hA:Rm A) (ok:Γ.ok) (hC:C.ok G Γ) (h:zjy C one is e=true) {v:V}{cv:Value}{Q:St→Prop}{σ:St} (w:ze7 one is v Q σ)
  (r:Rep G Γ frz σ s) (hv:RV s.heap cv v):wpAny (model G.prog G.w) A (assign e Γ.env cv) (PU G Γ frz s Q) NoE s:=
 match one,is,h,w with
 | true,[],_,w=>False.elim w
 | true,[_],h,w=>zt5 ok hC h w r hv
 | true,_::_::_,_,w=>False.elim w
 | false,_,h,w=>zz5 hA ok hC h w r hv
end
theorem zc0: ∀{xs:List Str},zki xs=true→xs.Nodup
 | [],_=>List.nodup_nil
 | x::xs,h=>by
  simp only[zki,Cc,Bool.not_eq_true',List.contains_eq_mem,decide_eq_false_iff_not] at h
  exact List.nodup_cons.mpr ⟨h.1,zc0 h.2⟩
theorem zI {β:Type}{x:Str}{k:β}: ∀{l:List (Str×β)},(l.map (·.1)).Nodup→(x,k)∈l→l.lookup x=some k
 | [],_,h=>by cases h
 | (y,d)::l,hn,h=>by
  rw[List.map_cons,List.nodup_cons] at hn
  rcases List.mem_cons.mp h with e | h
  ·cases e;simp[List.lookup]
  ·have:x≠y:=fun q=>hn.1 (List.mem_map.mpr ⟨(x,k),h,q⟩)
   rw[List.lookup_cons,beq_eq_false_iff_ne.mpr this]
   exact zI hn.2 h
theorem zl6 {names:List (Str×NameKind)}{x:Str} (h:x∈zpz names):(x,NameKind.local)∈names:=by
 unfold zpz at h
 obtain⟨⟨y,k⟩,h1,h2⟩:=List.mem_filterMap.mp h
 split at h2
 ·rename_i c
  cases h2
  simp only[Cc,Bh] at c
  rw[←c.1];exact h1
 ·exact(Am _ h2.symm).elim
theorem zjg {names:List (Str×NameKind)}{x:Str} (h:x∈yK names):(x,NameKind.free)∈names:=by
 unfold yK at h
 obtain⟨⟨y,k⟩,h1,h2⟩:=List.mem_filterMap.mp h
 split at h2
 ·rename_i c
  cases h2
  rw[Bh] at c
  rw[←c];exact h1
 ·exact(Am _ h2.symm).elim
theorem zlq: ∀names:List (Str×NameKind),(zpz names).Sublist (names.map (·.1))
 | []=> .slnil
 | (x,k)::r=>by
  unfold zpz
  rw[List.filterMap_cons,List.map_cons]
  split
  ·exact(zlq r).cons _
  ·rename_i b e
   split at e
   ·cases e;exact(zlq r).cons_cons _
   ·cases e
theorem zjs: ∀names:List (Str×NameKind),(yK names).Sublist (names.map (·.1))
 | []=> .slnil
 | (x,k)::r=>by
  unfold yK
  rw[List.filterMap_cons,List.map_cons]
  split
  ·exact(zjs r).cons _
  ·rename_i b e
   split at e
   ·cases e;exact(zjs r).cons_cons _
   ·cases e
noncomputable def zcn (env:Env) (names:List (Str×NameKind)):List (Str×Addr):=((yK names).map fun x=>(x,(env.cells.lookup x).getD 0)).reverse
theorem zdn {env:Env}: ∀(names:List (Str×NameKind)) (acc:List (Str×Addr)),(∀x∈yK names,(env.cells.lookup x).isSome=true)→
  (forIn (m:=Sem) names acc fun p cs=>(if p.2==NameKind.free then(do let a ←cellOf env p.1;pure (ForInStep.yield ((p.1,a)::cs))) else pure (ForInStep.yield cs)))=pure (zcn env names++acc)
 | [],acc,_=>by rw[List.forIn_nil];rfl
 | (x,k)::r,acc,h=>by
  rw[List.forIn_cons]
  cases hk:k==NameKind.free with
  | true=>
   have e:yK ((x,k)::r)=x::yK r:=by unfold yK;rw[List.filterMap_cons];simp[hk]
   rw[e] at h
   have hx:=h x Aq
   obtain⟨c,hc0⟩:=Option.isSome_iff_exists.mp hx
   have hc:cellOf env x=pure c:=by unfold cellOf;rw[hc0]
   simp only[hk,if_true,hc,pure_bind]
   rw[zdn r _ fun y hy=>h y (Ao _ hy)]
   unfold zcn
   rw[e,List.map_cons,List.reverse_cons,hc0,Ah];rfl
  | false=>
   have e:yK ((x,k)::r)=yK r:=by unfold yK;rw[List.filterMap_cons];simp[hk]
   rw[e] at h
   simp only[hk,Bool.false_eq_true,if_false,pure_bind]
   rw[zdn r _ h]
   unfold zcn;rw[e]
theorem zon {scope:Scope}{env:Env} (h: ∀x∈yK scope.names,(env.cells.lookup x).isSome=true):closureFor scope env=pure (zcn env scope.names):=by
 unfold closureFor
 have:=zdn scope.names [] h
 simpa using this
theorem zrg {env:Env}{names:List (Str×NameKind)} (hn:(yK names).Nodup) {x:Str} (hx:x∈yK names):(zcn env names).lookup x=some ((env.cells.lookup x).getD 0):=by
 have hf:((fun p:Str×Addr=>p.1) ∘ fun x=>(x,(env.cells.lookup x).getD 0))=id:=rfl
 refine zI ?_ ?_
 ·unfold zcn
  rw[List.map_reverse,List.map_map,hf,List.map_id]
  exact(List.reverse_perm _).nodup_iff.mpr hn
 ·unfold zcn
  rw[List.mem_reverse]
  exact List.mem_map.mpr ⟨x,hx,rfl⟩
section
variable {G:GS}{A:Around}{Γ:FE}{frz:Frz}{σ:St}{s:Shared}{C:SC}
noncomputable def zdm (env:Env) (names:List (Str×NameKind)):List (Str×VK):=(zpz names).map (·,.loc)++(yK names).map fun x=>(x,.ref ((env.cells.lookup x).getD 0))
noncomputable def zc4 (Γ:FE) (sc:Scope) (L:Addr):FE:=⟨compEnvC sc (zcn Γ.env sc.names) L Γ.env,zdm Γ.env sc.names⟩
theorem zo9: ∀{caps:List Nat}{xs:List Str},znj C caps xs=true→caps.length=xs.length∧∀(j:Nat) x,xs[j]? =some x→∃i,caps[j]? =some i∧C.is i x=true∧C.cells.contains x=true
 | [],xs,h=>by
  cases xs with
  | nil=>exact⟨rfl,fun j x e=>by simp at e⟩
  | cons=>cases h
 | i::is,xs,h=>by
  cases xs with
  | nil=>cases h
  | cons x xs=>
   replace h:(C.is i x&&C.cells.contains x&&znj C is xs)=true:=h
   simp only[Cc] at h
   obtain⟨a,b⟩:=zo9 h.2
   refine⟨by simp[a],fun j y e=>?_⟩
   cases j with
   | zero=>simp only[List.getElem?_cons_zero,Option.some.injEq] at e;subst e;exact⟨i,rfl,h.1⟩
   | succ j=>exact b j y (by simpa using e)
theorem zre (ok:Γ.ok) (hC:C.ok G Γ) {i:Nat}{x:Str} (h:C.is i x=true) (hc:C.cells.contains x=true):
  ∃c,Γ.env.cells.lookup x=some c∧(Γ.vars[i]? =some (x,.own c)∨Γ.vars[i]? =some (x,.ref c)):=by
 obtain⟨k,hk⟩:=z1w hC h
 cases k with
 | loc=>exact absurd hk (hC.cells _ _ (List.contains_iff_mem.mp hc))
 | own c=>exact⟨c,(ok.own _ _ _ hk).2.1,.inl hk⟩
 | ref c=>exact⟨c,(ok.ref _ _ _ hk).2,.inr hk⟩
structure CompOk (C:SC) (sc:Scope) (n:Nat) (caps:List Nat):Prop where
 kind:sc.kind= .function
 len:(zpz sc.names).length=n
 caps:znj C caps (yK sc.names)=true
 nd:(sc.names.map (·.1)).Nodup
 all: ∀p∈sc.names,(p.2= .local∨p.2= .free∨p.2= .globalImplicit)∧(p.1==Str.ofString "__debug__")=false∧(p.1==Str.ofString "__classdict__")=false
theorem zfv {sc:Scope}{n:Nat}{caps:List Nat} (h:zkq C sc n caps=true):CompOk C sc n caps:=by
 unfold zkq at h
 simp only[Cc,Bh,Bo,Ca,Bool.not_eq_true'] at h
 exact⟨h.1.1.1.1,h.1.1.1.2,h.1.1.2,zc0 h.1.2,fun p hp=>⟨by rcases (h.2 p hp).1.1 with (q | q) | q<;>simp[q],(h.2 p hp).1.2,(h.2 p hp).2⟩⟩
theorem zis (ok:Γ.ok) (hC:C.ok G Γ) {sc:Scope}{n:Nat}{caps:List Nat} (h:CompOk C sc n caps): ∀x∈yK sc.names,(Γ.env.cells.lookup x).isSome=true:=fun x hx=>by
 obtain⟨j,hj,e⟩:=List.getElem_of_mem hx
 obtain⟨i,_,h1,h2⟩:=(zo9 h.caps).2 j x (by rw[Ay hj,e])
 obtain⟨c,hc,_⟩:=zre ok hC h1 h2
 rw[hc];rfl
theorem zhk {env:Env}{x:Str}: ∀{names:List (Str×NameKind)},names.lookup x=some .free→
  (names.map fun(n,k)=>if (k==NameKind.free&&env.scope.kind== .function&&env.kindOf n==some .cell) then(n,NameKind.cell) else(n,k)).lookup x=some .cell∨
  (names.map fun(n,k)=>if (k==NameKind.free&&env.scope.kind== .function&&env.kindOf n==some .cell) then(n,NameKind.cell) else(n,k)).lookup x=some .free
 | [],h=>by cases h
 | (n,k)::r,h=>by
  rw[List.map_cons]
  simp only[List.lookup_cons] at h
  cases hx:x==n with
  | true=>
   rw[hx] at h;cases h
   dsimp only
   split
   ·left;rw[List.lookup_cons,hx]
   ·right;rw[List.lookup_cons,hx]
  | false=>
   rw[hx] at h
   have ih:=zhk (env:=env) h
   dsimp only
   split<;>(rw[List.lookup_cons,hx];exact ih)
theorem zhw {env:Env}{x:Str}: ∀{names:List (Str×NameKind)},names.lookup x=some .globalImplicit→
  (names.map fun(n,k)=>if (k==NameKind.free&&env.scope.kind== .function&&env.kindOf n==some .cell) then(n,NameKind.cell) else(n,k)).lookup x=some .globalImplicit
 | [],h=>by cases h
 | (n,k)::r,h=>by
  rw[List.map_cons]
  simp only[List.lookup_cons] at h
  cases hx:x==n with
  | true=>
   rw[hx] at h;cases h
   dsimp only
   rw[if_neg (by simp),List.lookup_cons,hx]
  | false=>
   rw[hx] at h
   have ih:=zhw (env:=env) h
   dsimp only
   split<;>(rw[List.lookup_cons,hx];exact ih)
theorem cvg {env:Env}{names:List (Str×NameKind)}{i:Nat}{x:Str}{k:VK} (h:(zdm env names)[i]? =some (x,k)):
  (k= .loc∧(zpz names)[i]? =some x)∨(∃j,i=(zpz names).length+j∧(yK names)[j]? =some x∧k= .ref ((env.cells.lookup x).getD 0)):=by
 unfold zdm at h
 by_cases hi:i<(zpz names).length
 ·rw[Bg (by simpa using hi),Bm,Bn] at h
  obtain⟨y,a,b⟩:=h
  cases b;exact .inl ⟨rfl,a⟩
 ·rw[Bf (by simpa using hi),Ar,Bm,Bn] at h
  obtain⟨y,a,b⟩:=h
  cases b;exact .inr ⟨_,by exact Ai (zj 5265838744531501611 rfl (Ab (ze 4952567644716 rfl hi))) (zj 9804662326409303082 rfl (Ab (ze 4952567644716 rfl hi))),a,rfl⟩
theorem z1c (ok:Γ.ok) (hC:C.ok G Γ) {sc:Scope}{n:Nat}{caps:List Nat} (h:CompOk C sc n caps) (L:Addr):(zc4 Γ sc L).ok:=by
 have hloc: ∀x,x∈zpz sc.names→sc.names.lookup x=some .local:=fun x hx=>zI h.nd (zl6 hx)
 have hfree: ∀x,x∈yK sc.names→sc.names.lookup x=some .free:=fun x hx=>zI h.nd (zjg hx)
 have ndl:=h.nd.sublist (zlq sc.names)
 have ndf:=h.nd.sublist (zjs sc.names)
 refine⟨h.kind,ok.glb,ok.bui,?_,?_,?_,?_,?_,?_⟩
 ·intro i x hx
  rcases cvg hx with ⟨_,a⟩ | ⟨j,_,_,e⟩
  ·exact lookup_relabel_local (hloc x (Bp a))
  ·cases e
 ·intro i x c hx
  rcases cvg hx with ⟨e,_⟩ | ⟨j,_,_,e⟩<;>cases e
 ·intro i x c hx
  rcases cvg hx with ⟨e,_⟩ | ⟨j,_,a,e⟩
  ·cases e
  ·cases e
   have hm:=Bp a
   refine⟨zhk (hfree x hm),?_⟩
   exact zrg ndf hm
 ·intro i j x k k' hx hy
  rcases cvg hx with ⟨_,a⟩ | ⟨i',rfl,a,_⟩<;>rcases cvg hy with ⟨_,b⟩ | ⟨j',rfl,b,_⟩
  ·obtain⟨hi,e1⟩:=Ce.mp a
   exact(List.getElem?_inj hi ndl).mp (a.trans b.symm)
  ·have:=(hloc x (Bp a)).symm.trans (hfree x (Bp b));exact absurd this (by decide)
  ·have:=(hloc x (Bp b)).symm.trans (hfree x (Bp a));exact absurd this (by decide)
  ·obtain⟨hi,e1⟩:=Ce.mp a
   rw[(List.getElem?_inj hi ndf).mp (a.trans b.symm)]
 ·intro i j x y c hx
  rcases cvg hx with ⟨e,_⟩ | ⟨_,_,_,e⟩<;>cases e
 ·intro i x k hx
  rcases cvg hx with ⟨_,a⟩ | ⟨j,_,a,_⟩
  ·exact(h.all _ (zl6 (Bp a))).2
  ·exact(h.all _ (zjg (Bp a))).2
theorem z3s (ok:Γ.ok) (hC:C.ok G Γ) {sc:Scope}{n:Nat}{caps:List Nat} (h:CompOk C sc n caps) (L:Addr):(zci C sc).ok G (zc4 Γ sc L):=by
 have hfree: ∀x,x∈yK sc.names→sc.names.lookup x=some .free:=fun x hx=>zI h.nd (zjg hx)
 refine⟨?_,hC.fns,hC.meths,?_,?_⟩
 ·intro i x hx e
  rcases cvg e with ⟨_,a⟩ | ⟨_,_,_,e⟩
  ·have:=(zI h.nd (zl6 (Bp a))).symm.trans (hfree x hx);exact absurd this (by decide)
  ·cases e
 ·intro i x r hx
  replace hx:((zpz sc.names).map (·,false)++(yK sc.names).map (·,true))[i]? =some (x,r):=hx
  by_cases hi:i<(zpz sc.names).length
  ·rw[Bg (by simpa using hi),Bm,Bn] at hx
   obtain⟨y,a,b⟩:=hx
   cases b
   refine⟨.loc,?_,fun _ c q=>by cases q⟩
   show(zdm Γ.env sc.names)[i]? =_
   unfold zdm
   rw[Bg (by simpa using hi),Bm,a];rfl
  ·rw[Bf (by simpa using hi),Ar,Bm,Bn] at hx
   obtain⟨y,a,b⟩:=hx
   cases b
   refine⟨.ref ((Γ.env.cells.lookup x).getD 0),?_,fun q=>by cases q⟩
   show(zdm Γ.env sc.names)[i]? =_
   unfold zdm
   rw[Bf (by simpa using hi),Ar,Bm,a];rfl
 ·intro x hx
  replace hx:(sc.names.filter fun p=>p.2== .globalImplicit).lookup x=some .globalImplicit:=hx
  have hm:(x,NameKind.globalImplicit)∈sc.names:=by
   have: ∀{l:List (Str×NameKind)},l.lookup x=some .globalImplicit→(x,NameKind.globalImplicit)∈l:=by
    intro l
    induction l with
    | nil=>intro h;exact(Am _ h.symm).elim
    | cons p l ih=>
     obtain⟨y,d⟩:=p
     intro h
     simp only[List.lookup_cons] at h
     split at h
     ·rename_i e;rw[Bh] at e;subst e;cases h;simp
     ·exact Ao _ (ih h)
   exact(List.mem_filter.mp (this hx)).1
  exact zhw (zI h.nd hm)
end
section
variable {G:GS}{A:Around}{Γ:FE}{frz:Frz}{σ:St}{s:Shared}{C:SC}
noncomputable def zgw (ifs:List Expr) (env:Env):Sem Bool:=
 forIn ifs true fun c r=>if r=true then do let ok ←isTrue c env (eval c env);pure (ForInStep.yield ok) else pure (ForInStep.yield r)
noncomputable def zz1 (elt target iter:Expr) (ifs:List Expr) (it acc:Value) (env:Env) (c:Code):Sem Fin:=do
 standAt iter.pos
 match ←pyNext it with
 | none=>pure (.done .next)
 | some v=>
  letOwnedTupleGo target it v
  assign target env v
  let mut ok:=true
  for c in ifs do
   if ok then ok ←isTrue c env (eval c env)
  if ok then
   (do let _ ←call (.builtin "list.append") [acc,←eval elt env])
  again c
theorem zvb {elt target iter:Expr}{ifs:List Expr}{gens:List Comprehension}{d:Nat}{scope:Scope}{pos:Pos}{it:Addr}{acc:Value}{env:Env}{R:Result→Shared→Prop} (hT:compTurn (.ListComp elt gens scope pos) d (.ref it) acc env=zz1 elt target iter ifs (.ref it) acc env (.compLoop (.ListComp elt gens scope pos) d (.ref it) acc env)) (I:Nat→Shared→Prop)
  (turn: ∀n s,I n s→∀(K:Shared→Prop) (T1 T2:Value→Shared→Prop) (T3 T4:Shared→Prop),(∀m s',m<n→I m s'→K s')→
   (∀v s',wpAny (model G.prog G.w) A (letOwnedTupleGo target (.ref it) v) (fun _ s'=>T2 v s') NoE s'→T1 v s')→(∀v s',wpAny (model G.prog G.w) A (assign target env v) (fun _ s'=>T3 s') NoE s'→T2 v s')→
   (∀s',wpAny (model G.prog G.w) A (zgw ifs env) (fun ok s'=>if ok=true then T4 s' else K s') NoE s'→T3 s')→
   (∀s',wpAny (model G.prog G.w) A (eval elt env) (fun x s'=>wpAny (model G.prog G.w) A (call (.builtin "list.append") [acc,x]) (fun _ s'=>K s') NoE s') NoE s'→T4 s')→
   wpAny (model G.prog G.w) A (pyNext (.ref it)) (fun r s₁=>match r with
   | none=>R (.ok .next) s₁
   | some v=>T1 v s₁) NoE s)
  (n:Nat) (h:I n s):codeAny (model G.prog G.w) A (.compLoop (.ListComp elt gens scope pos) d (.ref it) acc env) R s:=by
 refine codeAny_loop rfl I (fun n s hI=>?_) n h
 show wpAny _ A ((compTurn (.ListComp elt gens scope pos) d (.ref it) acc env).onRaise (fun x=>do noteFrame x env;theTreesLotGoes x)) _ _ s
 refine wpAny_noted ?_
 rw[hT]
 refine Ac (wpAny_standAt (Ac (Bu (turn n s hI (fun s'=> ∃m,m<n∧I m s') _ _ _ _ (fun m s' a b=>⟨m,a,b⟩) (fun _ _ h=>h) (fun _ _ h=>h) (fun _ h=>h) fun _ h=>h) (fun r s₁ h₁=>?_) fun _ _ h'=>h'.elim)))
 cases r with
 | none=>exact Aj h₁
 | some v=>
  refine Ac (Bu h₁ (fun _ s₁' h₁'=>?_) fun _ _ h'=>h'.elim)
  refine Ac (Bu h₁' (fun _ s₂ h₂=>Ac (Bu h₂ (fun ok s₃ h₃=>?_) fun _ _ h'=>h'.elim)) fun _ _ h'=>h'.elim)
  cases ok with
  | false=>exact Aj ⟨rfl,h₃⟩
  | true=>
   exact Ac (Ac (Bu h₃ (fun x s₄ h₄=>Ac (Bu h₄ (fun _ s₅ h₅=>Aj (Aj ⟨rfl,h₅⟩)) fun _ _ h'=>h'.elim)) fun _ _ h'=>h'.elim))
theorem z2j (r:Rep G Γ frz σ s) {acc:Addr}{arr:Array Value}{n:Nat}{us:List V}{u:V}{cu:Value} (d:Aside G Γ frz σ acc) (ha:s.heap.get? acc=some {cls:= .type "list",data:= .seq arr n}) (ru:RVs s.heap arr.toList us) (hu:RV s.heap cu u) (hs:sma us.length):
  wpAny (model G.prog G.w) A (call (.builtin "list.append") [.ref acc,cu]) (fun _ s'=>Rep G Γ frz σ s'∧TK s.heap s'.heap∧(∀b o,b≠acc→s.heap.get? b=some o→s'.heap.get? b=some o)∧
   ∃arr' n',s'.heap.get? acc=some {cls:= .type "list",data:= .seq arr' n'}∧RVs s'.heap arr'.toList (us++[u])) NoE s:=by
 have hz:=ru.length
 simp only[Bx] at hz
 refine call_meets F.slot_list_append ⟨_,ha,rfl⟩ F.entry_list_append (F.args_list_append_2 _ _) (AutoListH.list_append_list_val_0 _ _ _ _ (by rw[hz];exact za4 hs)) ⟨ha,?_⟩
 have k: ∀b o,b≠acc→s.heap.get? b=some o→(s.heap.update acc (Obj.mapSeq fun x=>x.push cu)).get? b=some o:=fun b o hb e=>(Heap.get?_update_other _ _ (Ne.symm hb)).trans e
 obtain⟨q1,q2⟩:=r.aside (tk:=s.toks) d ha (by simp[Imm,zjj]) k
 exact⟨q1,q2,k,_,_,Heap.get?_update_self _ ha rfl,by simpa [Obj.mapSeq] using (ru.tk q2).append (RVs.one (hu.tk q2))⟩
theorem zsy {it:Addr}{o:Obj}{g:Mem→Prop}{vs:List V}{post:Value→Shared→Prop}{E:Value→Shared→Prop} (ho:s.heap.get? it=some o) (i:IterAt s.heap o g vs) (q:post (.ref it) s):
  wpAny (model G.prog G.w) A (pyIter (.ref it)) post E s:=by
 cases i with
 | list a b=>exact wpAny_pyIter_listiter ⟨o,ho,a,b⟩ q
 | tup a b _ _=>exact wpAny_pyIter_tupleiter ⟨o,ho,a,b⟩ q
 | rng=>exact wpAny_pyIter_rangeiter ho q
 | @str _ x t i a b=>
  cases hasc:(mkS x).cps.all (·<128) with
  | true=>
   have st:strIterType (mkS x)="str_ascii_iterator":=by unfold strIterType;rw[hasc];rfl
   rw[st] at a
   exact wpAny_pyIter_striter_ascii ⟨o,ho,a,b⟩ q
  | false=>
   have st:strIterType (mkS x)="str_iterator":=by unfold strIterType;rw[hasc];rfl
   rw[st] at a
   exact wpAny_pyIter_striter_wide ⟨o,ho,a,b⟩ q
structure CompWalk (G:GS) (A:Around) (P:PC) (Γ':FE) (elt target:Expr) (ifs:List Expr) (one:Bool) (is:List Nat) (cs:List Ex) (x:Ex):Prop where
 bind: ∀{v:V} {Q:St→Prop} {σ:St},ze7 one is v Q σ→∀{frz:Frz} {s:Shared} {cv:Value},Rep G Γ' frz σ s→RV s.heap cv v→wpAny (model G.prog G.w) A (assign target Γ'.env cv) (PU G Γ' frz s Q) NoE s
 test: ∀{Q:Bool→St→Prop} {σ:St},zia P true cs Q σ→WB G A Γ' (zgw ifs Γ'.env) Q σ
 elt: ∀{Q:V→St→Prop} {σ:St},wpE P x Q σ→W G A Γ' (eval elt Γ'.env) Q σ
inductive LI (G:GS) (Γ':FE) (frz:Frz) (it acc:Addr) (g:Mem→Prop) (h0:Heap) (W:List V→List V→St→Prop) (n:Nat) (s:Shared):Prop
 | mk {σ:St} {vs us:List V} {o:Obj} {arr:Array Value} {na:Nat}:vs.length=n→Rep G Γ' frz σ s→TK h0 s.heap→Aside G Γ' frz σ it→Aside G Γ' frz σ acc→s.heap.get? it=some o→IterAt s.heap o g vs→
  s.heap.get? acc=some {cls:= .type "list",data:= .seq arr na}→RVs s.heap arr.toList us→W vs us σ→LI G Γ' frz it acc g h0 W n s
noncomputable abbrev z3z (arr:Array Value) (na:Nat):Obj:={cls:= .type "list",data:= .seq arr na}
inductive Out (G:GS) (Γ':FE) (frz:Frz) (it acc:Addr) (o a:Obj) (σ:St) (s:Shared):Prop
 | mk:Rep G Γ' frz σ s→Aside G Γ' frz σ it→Aside G Γ' frz σ acc→s.heap.get? it=some o→s.heap.get? acc=some a→Out G Γ' frz it acc o a σ s
theorem zu6 {Γ':FE}{target:Expr}{it acc:Addr}{o:Obj}{g:Mem→Prop}{vs:List V}{arr:Array Value}{na:Nat}{T1 T2:Value→Shared→Prop}{T3 Rn:Shared→Prop}{Q:V→List V→St→Prop}
  (hA:Rm A) (hne:it≠acc) (r:Rep G Γ' frz σ s) (a:Aside G Γ' frz σ it) (b:Aside G Γ' frz σ acc) (ho:s.heap.get? it=some o) (hi:IterAt s.heap o g vs) (ha:s.heap.get? acc=some (z3z arr na)) (hg:g σ.mem)
  (k1: ∀v s',wpAny (model G.prog G.w) A (letOwnedTupleGo target (.ref it) v) (fun _ s'=>T2 v s') NoE s'→T1 v s') (k2: ∀v s',wpAny (model G.prog G.w) A (assign target Γ'.env v) (fun _ s'=>T3 s') NoE s'→T2 v s')
  (hn:vs=[]→∀s',Rep G Γ' frz σ s'→TK s.heap s'.heap→Aside G Γ' frz σ acc→s'.heap.get? acc=some (z3z arr na)→Rn s')
  (hb: ∀v vs',vs=v::vs'→∀{frz:Frz} {s:Shared} {cv:Value},Rep G Γ' frz σ s→RV s.heap cv v→wpAny (model G.prog G.w) A (assign target Γ'.env cv) (PU G Γ' frz s (Q v vs')) NoE s)
  (hc: ∀v vs',vs=v::vs'→∀o2 s' σ',IterAt s'.heap o2 g vs'→Q v vs' σ'→Rep G Γ' (zO (zO frz acc (z3z arr na)) it o2) σ' s'→TK s.heap s'.heap→
   (∀{σ₅ s₅},Rep G Γ' (zO (zO frz acc (z3z arr na)) it o2) σ₅ s₅→Out G Γ' frz it acc o2 (z3z arr na) σ₅ s₅)→T3 s'):
  wpAny (model G.prog G.w) A (pyNext (.ref it)) (fun y s'=>match y with | none=>Rn s' | some v=>T1 v s') NoE s:=by
 have r':=r.asideIn b ha
 have ae:Aside G Γ' (zO frz acc (z3z arr na)) σ it:=⟨a.m,by unfold zO;rw[if_neg hne];exact a.f,a.l,a.c,a.r⟩
 refine Bu (ziq hA r' ae ho hi hg) (fun y s₂ p=>?_) fun _ _ x=>x.elim
 cases vs with
 | nil=>
  cases y with
  | some _=>exact False.elim p
  | none=>
   obtain⟨r2,t2⟩:=p
   obtain⟨r2',b2,ha2⟩:=Rep.asideOut r b r2
   exact hn rfl s₂ r2' t2 b2 ha2
 | cons v vs'=>
  cases y with
  | none=>exact False.elim p
  | some cv=>
   obtain⟨rv,r2,t2,o2,ho2,i2⟩:=p
   refine k1 _ _ (zk6 ho2 i2 (k2 _ _ ?_))
   refine Bu (hb v vs' rfl (r2.asideIn ae ho2) rv) (fun _ s₃ p=>?_) fun _ _ x=>x.elim
   obtain⟨σ₃,r3,t3,w3⟩:=p
   refine hc v vs' rfl o2 s₃ σ₃ (i2.tk t3) w3 r3 (t2.trans t3) fun r5=>?_
   obtain⟨q5,a5,ho5⟩:=Rep.asideOut r2 ae r5
   obtain⟨q6,b6,ha6⟩:=Rep.asideOut r b q5
   exact⟨q6,⟨a5.m,a.f,a.l,a.c,a.r⟩,b6,ho5,ha6⟩
theorem zw3 {b:V→(St→Prop)→St→Prop}{t:(Bool→St→Prop)→St→Prop}{e:(V→St→Prop)→St→Prop}{g:Mem→Prop}{R:List V→St→Prop}: ∀{vs us:List V}{σ:St},zed b t e g R vs us σ→g σ.mem
 | [],_,_,h=>h.1
 | _::_,_,_,h=>h.1
theorem zy5 {P:PC}{Γ':FE}{elt target iter:Expr}{ifs:List Expr}{gens:List Comprehension}{d:Nat}{scope:Scope}{pos:Pos}{one:Bool}{is:List Nat}{cs:List Ex}{x:Ex}{it acc:Addr}{o:Obj}{g:Mem→Prop}{R:List V→St→Prop}{vs us₀:List V}{arr₀:Array Value}{n₀:Nat}
  (hT:compTurn (.ListComp elt gens scope pos) d (.ref it) (.ref acc) Γ'.env=zz1 elt target iter ifs (.ref it) (.ref acc) Γ'.env (.compLoop (.ListComp elt gens scope pos) d (.ref it) (.ref acc) Γ'.env))
  (hA:Rm A) (cw:CompWalk G A P Γ' elt target ifs one is cs x) (r:Rep G Γ' frz σ s) (hne:it≠acc) (d1:Aside G Γ' frz σ it) (d2:Aside G Γ' frz σ acc) (ho:s.heap.get? it=some o) (hi:IterAt s.heap o g vs)
  (ha:s.heap.get? acc=some {cls:= .type "list",data:= .seq arr₀ n₀}) (hru:RVs s.heap arr₀.toList us₀) (hs:sma (us₀.length+vs.length)) (w:zed (ze7 one is) (zia P true cs) (wpE P x) g R vs us₀ σ) {RR:Result→Shared→Prop}
  (fin: ∀s' σ' us arr n,Rep G Γ' frz σ' s'→TK s.heap s'.heap→Aside G Γ' frz σ' acc→s'.heap.get? acc=some {cls:= .type "list",data:= .seq arr n}→RVs s'.heap arr.toList us→R us σ'→RR (.ok .next) s'):
  codeAny (model G.prog G.w) A (.compLoop (.ListComp elt gens scope pos) d (.ref it) (.ref acc) Γ'.env) RR s:=by
 generalize hh:s.heap=h0 at fin
 refine zvb hT (LI G Γ' frz it acc g h0 fun vs us σ=>sma (us.length+vs.length)∧zed (ze7 one is) (zia P true cs) (wpE P x) g R vs us σ) ?_ vs.length (.mk rfl r (by rw[←hh];exact .refl _) d1 d2 ho hi ha hru ⟨hs,w⟩)
 clear w hs hru ha hi ho d1 d2 r hh
 intro n s₁ hI K T1 T2 T3 T4 hK k1 k2 k3 k4
 cases hI with | @mk σ₁ vs us o₁ arr na hl r1 t1 a1 b1 ho1 i1 ha1 ru1 hw=>
 obtain⟨hs,w1⟩:=hw
 refine zu6 hA hne r1 a1 b1 ho1 i1 ha1 (zw3 w1) k1 k2 (fun e s₂ r2 t2 b2 ha2=>?_) (Q:=fun v vs'=>zia P true cs fun b σ₁=>if b then wpE P x (fun u σ₂=>zed (ze7 one is) (zia P true cs) (wpE P x) g R vs' (us++[u]) σ₂) σ₁ else zed (ze7 one is) (zia P true cs) (wpE P x) g R vs' us σ₁) (fun v vs' e=>?_) fun v vs' e o2 s₃ σ₃ i3 w3 r3 t3 out=>?_
 ·subst e;exact fin s₂ _ _ _ _ r2 (t1.trans t2) b2 ha2 (ru1.tk t2) w1.2
 ·subst e;exact cw.bind w1.2
 subst e
 refine k3 _ (Bu (cw.test w3 _ _ r3) (fun ok s₄ p=>?_) fun _ _ x=>x.elim)
 obtain⟨σ₄,r4,t4,w4⟩:=p
 cases ok with
 | false=>
  obtain⟨r6,a6,b6,ho6,ha6⟩:=out r4
  have tt:=t3.trans t4
  exact hK _ _ (by rw[←hl];exact Cb _) (.mk rfl r6 (t1.trans tt) a6 b6 ho6 (i3.tk t4) ha6 (ru1.tk tt) ⟨ntr (Nat.add_le_add_left (Nat.le_succ _) _) hs,w4⟩)
 | true=>
  refine k4 _ (Bu (cw.elt w4 _ _ r4) (fun cu s₅ p=>?_) fun _ _ x=>x.elim)
  obtain⟨u,σ₅,rvu,r5,t5,w5⟩:=p
  obtain⟨r7,a6,b7,ho6,ha7⟩:=out r5
  have tt:=(t3.trans t4).trans t5
  refine Bu (z2j r7 b7 ha7 (ru1.tk tt) rvu (ntr (Bc _ _) hs)) (fun _ s₆ p=>?_) fun _ _ x=>x
  obtain⟨r8,t8,k8,arr',n',ha8,ru8⟩:=p
  exact hK _ _ (by rw[←hl];exact Cb _) (.mk rfl r8 (t1.trans (tt.trans t8)) ⟨a6.m,a6.f,a6.l,a6.c,a6.r⟩ b7 (k8 _ _ hne ho6) ((i3.tk (t4.trans t5)).tk t8) ha8 ru8 ⟨by rw[Aa];exact(Nat.add_assoc ..).symm▸(Nat.add_comm 1 _)▸hs,w5⟩)
end
section
variable {G:GS}{A:Around}{Γ:FE}{frz:Frz}{σ:St}{s:Shared}{C:SC}
theorem zhn {e:Expr}{env:Env} (h:za3 e=true) (x:Value):foldedSetIterable e env x=pure x:=by
 cases e<;>first | rfl | exact absurd h Au
noncomputable def zo1 (σ:St) (s:Shared) (it:Addr):Frz:=fun b=>if b=it then none else znm σ s b
theorem zym (ok:Γ.ok) (hC:C.ok G Γ) {sc:Scope}{n:Nat}{caps:List Nat} (hc:CompOk C sc n caps) (r:Rep G Γ frz σ s) {it L:Addr} (d:Aside G Γ frz σ it) (hL:s.heap.objs.size<L) {h₁:Heap}{tk:Nat} (k: ∀b o,s.heap.get? b=some o→h₁.get? b=some o)
  {m:Str→Option Value} (ns:h₁.Ns L m):Rep G (zc4 Γ sc L) (zo1 σ s it) (zfw σ n caps) {s with heap:=h₁,toks:=tk}:=by
 have fr: ∀b o,zo1 σ s it b=some o→s.heap.get? b=some o∧σ.mem b=none:=fun b o e=>by
  unfold zo1 at e
  split at e
  ·cases e
  ·have:=yS.mp e;exact⟨this.2,this.1⟩
 have up: ∀b o,frz b=some o→zo1 σ s it b=some o:=fun b o e=>by
  unfold zo1
  rw[if_neg (fun z=>by subst z;rw[d.f] at e;cases e)]
  exact r.upIn e
 have t:=TK.of k
 have hlf:zo1 σ s it L=none:=by
  cases q:zo1 σ s it L with
  | none=>rfl
  | some o=>exact absurd (Heap.lt_size (fr _ _ q).1) (Nat.not_lt.mpr (Ax hL))
 refine⟨let ⟨_,_,e⟩:=r.same;⟨h₁,tk,by rw[e]⟩,fun b o e=>up b o (r.hbase b o e),fun b o e=>up b o (r.hkeep b o e),fun b o e=>k _ _ (fr b o e).1,fun a o e=>(r.hmem a o e).keep t (k a),fun a o e=>?_,?_,hlf,(r.none_of_ge (Ax hL)).1,?_,?_,?_⟩
 ·cases q:zo1 σ s it a with
  | none=>rfl
  | some o'=>have:=(fr _ _ q).2;rw[show σ.mem a=some o from e] at this;cases this
 ·exact Ax (Nat.lt_of_le_of_lt (Ax (Nat.lt_of_le_of_lt r.hab r.lt_locals)) hL)
 ·refine⟨m,ns,fun i x v hx hv=>?_⟩
  rcases cvg hx with ⟨_,a⟩ | ⟨j,_,_,e⟩
  ·have hi:i<n:=by rw[←hc.len];exact(Ce.mp a).1
   replace hv:(List.replicate n none++caps.map fun i=>(σ.loc[i]?).join)[i]? =some (some v):=hv
   rw[Bg (by simpa using hi),List.getElem?_replicate] at hv
   split at hv<;>cases hv
  ·cases e
 ·intro i x c hx
  rcases cvg hx with ⟨e,_⟩ | ⟨_,_,_,e⟩<;>cases e
 ·intro i x c hx
  rcases cvg hx with ⟨e,_⟩ | ⟨j,hi,a,e⟩
  ·cases e
  refine bc fun z9=>?_
  obtain⟨i',h1,h2,h3⟩:=(zo9 hc.caps).2 j x a
  refine z9 ?_
  refine bc fun z9=>?_
  obtain⟨c',hc',hv⟩:=zre ok hC h2 h3
  refine z9 ?_
  have ec:c=c':=by injection e with e;rw[e,hc'];rfl
  subst ec
  have loc: ∀v,(zfw σ n caps).loc[i]? =some (some v)→σ.loc[i']? =some (some v):=fun v hv=>by
   replace hv:(List.replicate n none++caps.map fun i=>(σ.loc[i]?).join)[i]? =some (some v):=hv
   rw[hi,hc.len,Bf (by simp),List.length_replicate,Av,Bm,h1] at hv
   simp only[Option.map_some,Option.some.injEq] at hv
   cases q:σ.loc[i']? with
   | none=>rw[q] at hv;cases hv
   | some y=>rw[q] at hv;rw[show y=some v from hv]
  rcases hv with hv | hv
  ·refine bc fun z9=>?_
   obtain⟨p,q,o,ov,g,dd,f⟩:=r.hown i' x c hv
   refine z9 ?_
   refine⟨o,ov,?_,dd,fun v hv'=>let ⟨cv,e1,e2⟩:=f v (loc v hv');⟨cv,e1,e2.tk t⟩⟩
   unfold zo1
   rw[if_neg (d.c i' x c hv)]
   exact yS.mpr ⟨q,g⟩
  ·refine bc fun z9=>?_
   obtain⟨o,ov,g,dd,f⟩:=r.href i' x c hv
   refine z9 ?_
   exact⟨o,ov,up _ _ g,dd,fun v hv'=>let ⟨cv,e1,e2⟩:=f v (loc v hv');⟨cv,e1,e2.tk t⟩⟩
noncomputable def zl8 (G:GS) (A:Around) (Γ':FE) (e:Expr) (WW:List V→(Mem→Prop)→(List V→St→Prop)→St→Prop):Prop:= ∀{frz:Frz}{σ:St}{s:Shared}{it acc:Addr}{o:Obj}{g:Mem→Prop}{R:List V→St→Prop}{vs:List V},
 Rep G Γ' frz σ s→it≠acc→Aside G Γ' frz σ it→Aside G Γ' frz σ acc→s.heap.get? it=some o→IterAt s.heap o g vs→s.heap.get? acc=some {cls:= .type "list",data:= .seq #[] 0}→sma vs.length→WW vs g R σ→∀{RR:Result→Shared→Prop},
 (∀s' σ' us arr n,Rep G Γ' frz σ' s'→TK s.heap s'.heap→Aside G Γ' frz σ' acc→s'.heap.get? acc=some {cls:= .type "list",data:= .seq arr n}→RVs s'.heap arr.toList us→R us σ'→RR (.ok .next) s')→
 codeAny (model G.prog G.w) A (.compLoop e 0 (.ref it) (.ref acc) Γ'.env) RR s
theorem zms {WW:List V→(Mem→Prop)→(List V→St→Prop)→St→Prop}{gs:List Comprehension}{elt target iter:Expr}{ifs:List Expr}{sc:Scope}{pos ipos:Pos}{n:Nat}{caps:List Nat}{use:Option (Value→Sem Unit)}{QQ:Value→Shared→Prop}{R:St→List V→Mem→Prop}
  (hA:Rm A) (ok:Γ.ok) (hC:C.ok G Γ) (hc:CompOk C sc n caps) (hpl:za3 iter=true) (cr: ∀L,zl8 G A (zc4 Γ sc L) (.ListComp elt (⟨target,iter,ifs,0⟩::gs) sc pos) WW) (r:Rep G Γ frz σ s)
  (w:W G A Γ (eval iter Γ.env) (fun v σ₁=>za5 σ₁.mem v fun vs g=>sma vs.length∧WW vs g (fun us σ'=>R σ₁ us σ'.mem) (zfw σ₁ n caps)) σ)
  (fin: ∀σ₁ s' us m' D L mL,R σ₁ us m'→m' D=none→Rep G Γ frz ⟨σ₁.loc,upd m' D (.list us)⟩ s'→TK s.heap s'.heap→Aside G Γ frz ⟨σ₁.loc,upd m' D (.list us)⟩ L→s'.heap.Ns L mL→compPost (model G.prog G.w) A NoE use QQ (.ref D) L (.ok .next) s'):
  wpAny (model G.prog G.w) A (comprehension (.ListComp elt (⟨target,iter,ifs,0⟩::gs) sc pos) sc Γ.env ipos (newList []) false (eval iter Γ.env) use) QQ NoE s:=by
 have hcell: ∀y∈sc.names,y.2≠ .cell:=fun y hy q=>by rcases (hc.all y hy).1 with e | e | e<;>rw[e] at q<;>exact absurd q (by decide)
 refine wpAny_comprehension_free (g:=⟨target,iter,ifs,0⟩) (gs:=gs) rfl (zhn hpl) (zon (zis ok hC hc)) hc.kind (fun y hy hl=>zI hc.nd (by rw[←hl];exact hy)) ?_
 refine w.then r fun cv v σ₁ s₁ a1 r1 t1 w1=>?_
 refine bc fun z9=>?_
 obtain⟨vs,g,⟨hsm,w2⟩,mk⟩:=zno (A:=A) r1 a1 w1
 refine z9 ?_
 refine Bu mk (fun itv s₂ p=>?_) fun _ _ x=>x
 refine bc fun z9=>?_
 obtain⟨ia,o,rfl,r2,t2,d2,ho2,i2⟩:=p
 refine z9 ?_
 refine wpAny_newObj_type (wpAny_newFunctionEnv hcell (by intro y hy;simp at hy) (fun h₁ hns₁ hsb₁=>?_) hc.kind)
 dsimp only at hns₁ hsb₁ ⊢
 have kpush:=za8 s₂.heap {cls:= .type "list",dict:=none,data:= .seq ([]:List Value).toArray}
 have hD2:=Heap.get?_push_size s₂.heap (o:={cls:= .type "list",dict:=none,data:= .seq ([]:List Value).toArray}) rfl
 have hsz:(s₂.heap.push {cls:= .type "list",dict:=none,data:= .seq ([]:List Value).toArray}).objs.size=s₂.heap.objs.size+1:=Heap.size_push ..
 generalize s₂.heap.push {cls:= .type "list",dict:=none,data:= .seq ([]:List Value).toArray}=H2 at hns₁ hsb₁ kpush hD2 hsz ⊢
 have hLt:s₂.heap.objs.size<H2.objs.size:=ze 5071437861753899 rfl hsz
 have neL: ∀b,b<H2.objs.size→b≠H2.objs.size:=fun b hb=>Nat.ne_of_lt hb
 have old: ∀b o,s₂.heap.get? b=some o→h₁.get? b=some o:=fun b o e=>
  hsb₁.extBut b o (neL b (Nat.lt_trans (Heap.lt_size e) hLt)) (Heap.get?_push_of_some _ (kpush b o e))
 have hD:h₁.get? s₂.heap.objs.size=some {cls:= .type "list",data:= .seq #[] 0}:=hsb₁.extBut _ _ (neL _ hLt) (Heap.get?_push_of_some _ hD2)
 have r3:=zym ok hC hc r2 d2 hLt (tk:=s₂.toks+([]:List (Str×Value)).length) old hns₁
 have nf: ∀b,s₂.heap.objs.size≤b→znm σ₁ s₂ b=none:=fun b hb=>by
  cases q:znm σ₁ s₂ b with
  | none=>rfl
  | some o=>exact absurd (Heap.lt_size (yS.mp q).2) (Nat.not_lt.mpr hb)
 have hia:ia<s₂.heap.objs.size:=Heap.lt_size ho2
 have cellLt: ∀(i:Nat) y c,(zc4 Γ sc H2.objs.size).vars[i]? =some (y,.ref c)→c≠ia∧c<s₂.heap.objs.size:=fun i y c hx=>by
  refine bc fun z9=>?_
  obtain⟨ob,ov,g,_,_⟩:=r3.href i y c hx
  refine z9 ?_
  unfold zo1 at g
  split at g
  ·exact(Am _ g.symm).elim
  ·rename_i q
   exact⟨q,Heap.lt_size (yS.mp g).2⟩
 have noOwn: ∀(i:Nat) y c,(zc4 Γ sc H2.objs.size).vars[i]? =some (y,.own c)→False:=fun i y c hx=>by
  rcases cvg hx with ⟨e,_⟩ | ⟨_,_,_,e⟩<;>cases e
 have a1':Aside G (zc4 Γ sc H2.objs.size) (zo1 σ₁ s₂ ia) (zfw σ₁ n caps) ia:=⟨d2.m,by unfold zo1;rw[if_pos rfl],Nat.ne_of_lt (Nat.lt_trans hia hLt),fun i y c hx=>(noOwn i y c hx).elim,fun i y c hx=>(cellLt i y c hx).1⟩
 have a2':Aside G (zc4 Γ sc H2.objs.size) (zo1 σ₁ s₂ ia) (zfw σ₁ n caps) s₂.heap.objs.size:=
  ⟨(r2.none_of_ge (Al _)).1,by unfold zo1;rw[if_neg (Nat.ne_of_gt hia)];exact nf _ (Al _),Nat.ne_of_lt hLt,fun i y c hx=>(noOwn i y c hx).elim,fun i y c hx=>Nat.ne_of_lt (cellLt i y c hx).2⟩
 have t3:TK s₂.heap h₁:= .of old
 have go: ∀s₃:Shared,s₃={s₂ with heap:=h₁,toks:=s₂.toks+([]:List (Str×Value)).length}→
   codeAny (model G.prog G.w) A (.compLoop (.ListComp elt (⟨target,iter,ifs,0⟩::gs) sc pos) 0 (.ref ia) (.ref s₂.heap.objs.size) (zc4 Γ sc H2.objs.size).env) (compPost (model G.prog G.w) A NoE use QQ (.ref s₂.heap.objs.size) H2.objs.size) s₃:=by
  rintro s₃ rfl
  refine cr _ r3 (Nat.ne_of_lt hia) a1' a2' (old _ _ ho2) (i2.tk t3) hD hsm w2 fun s' σ' us arr na r4 t4 a4 ha4 ru4 hR=>?_
  have tt:TK s₂.heap s'.heap:=t3.trans t4
  have b1:Rep G Γ frz ⟨σ₁.loc,σ'.mem⟩ s':=r2.back rfl r4.rp (fun b o e hor hg=>by
   unfold zo1
   rw[if_neg (fun z=>?_)]
   ·exact yS.mpr ⟨e,hg⟩
   ·subst z
    rcases hor with q | ⟨o',q⟩ | ⟨i,y,q⟩
    ·exact d2.l q
    ·rw[d2.f] at q;exact(Am _ q.symm).elim
    ·exact d2.c i y _ q rfl) tt
  have r2': ∀b,s₂.heap.objs.size≤b→frz b=none∧b≠Γ.env.locals∧(∀(i:Nat) y c,Γ.vars[i]? =some (y,.own c)→c≠b)∧(∀(i:Nat) y c,Γ.vars[i]? =some (y,.ref c)→c≠b):=fun b hb=>by
   have:=r2.asideNew hb
   exact⟨this.f,this.l,this.c,this.r⟩
  have hn:=r2' _ (Al _)
  have hn2:=r2' _ (Ax hLt)
  have b2:=b1.join (a:=s₂.heap.objs.size) (o:= .list us) a4.m hn.1 hn.2.1 hn.2.2.1 (.list ha4 ru4)
  refine bc fun z9=>?_
  obtain⟨mL,nsL,_⟩:=r4.hns
  refine z9 ?_
  refine fin σ₁ s' us σ'.mem s₂.heap.objs.size H2.objs.size mL hR a4.m b2 ((t1.trans t2).trans tt) ⟨?_,hn2.1,hn2.2.1,hn2.2.2.1,hn2.2.2.2⟩ nsL
  show upd σ'.mem _ _ _=none
  rw[upn _ _ (Nat.ne_of_gt hLt)];exact r4.hlm
 exact codeAny_compStart_list (go _ rfl) (zsy (old _ _ ho2) (i2.tk t3) (go _ rfl))
theorem z33 {WW:List V→(Mem→Prop)→(List V→St→Prop)→St→Prop}{gs:List Comprehension}{elt target iter:Expr}{ifs:List Expr}{sc:Scope}{pos:Pos}{n:Nat}{caps:List Nat}{Q:V→St→Prop}
  (hA:Rm A) (ok:Γ.ok) (hC:C.ok G Γ) (hc:CompOk C sc n caps) (hpl:za3 iter=true) (cr: ∀L,zl8 G A (zc4 Γ sc L) (.ListComp elt (⟨target,iter,ifs,0⟩::gs) sc pos) WW)
  (w:W G A Γ (eval iter Γ.env) (fun v σ₁=>za5 σ₁.mem v fun vs g=>sma vs.length∧WW vs g (fun us σ'=> ∀a,σ'.mem a=none→Q (.obj a) {σ₁ with mem:=upd σ'.mem a (.list us)}) (zfw σ₁ n caps)) σ):
  W G A Γ (eval (.ListComp elt (⟨target,iter,ifs,0⟩::gs) sc pos) Γ.env) Q σ:=fun frz s r=>by
 simp only[eval_ListComp]
 refine zms (use:=none) (R:=fun σ₁ us m=> ∀a,m a=none→Q (.obj a) {σ₁ with mem:=upd m a (.list us)}) hA ok hC hc hpl cr r w fun σ₁ s' us m' D L mL hR hm r' t' d' ns=>?_
 refine⟨mL,ns,fun h' hs'=>?_⟩
 refine bc fun z9=>?_
 obtain⟨oL,es,ep,e,dL,_⟩:=ns
 refine z9 ?_
 obtain⟨r2,t2⟩:=r'.aside (tk:=s'.toks) d' e (by rintro (⟨_,_,_,q⟩ | ⟨_,_,q,_⟩ | ⟨_,_,_,q,_⟩)<;>rw[dL] at q<;>cases q) hs'.extBut
 exact⟨.obj D,_,.obj D,r2,t'.trans t2,hR D hm⟩
end
section
variable {G:GS}{A:Around}{P:PC}
theorem zo4 {o:Expr}{attr:Str}{env:Env}{t:Sem Value} (h:zb9 o=true):attributeBase o attr env t=t:=by
 cases o<;>first | rfl | exact absurd h Au
theorem zq3 {o:Expr}{name:Str}{ap pos:Pos}{env:Env}{ov:Value}{xs:List Expr}{s:Shared}{Q:Value→Shared→Prop} (hn:xs.length<20) (hl:ap.endLine=pos.line)
  (h: ∀pl:Sem Bool,wpAny (model G.prog G.w) A (getMethod ov name pl) (fun p s₁=>wpAny (model G.prog G.w) A (callWith pos p.1 p.2 (xs.map fun e=>(false,eval e env)) []) Q NoE s₁) NoE s):
  wpAny (model G.prog G.w) A (methodCall o name ap pos env ov (xs.length+([]:List Keyword).length) (xs.map fun e=>(false,eval e env)) (backToKw pos (keywordEach [] env))) Q NoE s:=by
 have few:methodCallForm (xs.length+([]:List Keyword).length) (xs.map fun e=>(false,eval e env)) (backToKw pos (keywordEach [] env))=true:=by
  unfold methodCallForm
  simp only[Cc,decide_eq_true_eq]
  refine⟨⟨?_,rfl⟩,?_⟩
  ·rw[List.all_map,Bo];intro _ _;rfl
  ·show xs.length+0+0<30
   exact ntr ‹_› (by decide)
 unfold methodCall
 rw[few]
 refine Ac (Bt ?_)
 refine Bu (h _) (fun p s₁ h₁=>?_) fun _ _ x=>x
 obtain⟨f,first⟩:=p
 refine Ac ?_
 unfold methodCallPos
 rw[if_pos (by simp[hl])]
 exact Aj h₁
theorem zee {M:Model}{A:Around}{E:Value→Shared→Prop}{s:Shared}{vs keep:List Value}{Q:Unit→Shared→Prop} (h:Q () s):wpAny M A (release vs keep) Q E s:=
 fun Γ p _=>by rw[Sem.wp_release];exact h
theorem ze2 {α:Type}{M:Model}{A:Around}{E:Value→Shared→Prop}{s:Shared}{x y:Sem α}{Q:α→Shared→Prop} (e:x=y) (h:wpAny M A y Q E s):wpAny M A x Q E s:=e▸h
theorem zq {α:Type}{M:Model}{A:Around}{E:Value→Shared→Prop}{s:Shared}{x:Sem α}{P Q:α→Shared→Prop} (h:wpAny M A x P E s) (k: ∀a s,P a s→Q a s):wpAny M A x Q E s:=Bu h k fun _ _ x=>x
structure Cx (G:GS) (A:Around) (P:PC) (Γ:FE) (C:SC):Prop where
 g:G.ok
 b:G.bi
 a:Rm A
 p:P.run G A
 ok:Γ.ok
 c:C.ok G Γ
noncomputable def SE (G:GS) (A:Around) (P:PC) (x:Ex):Prop:= ∀(Γ:FE) (C:SC),Cx G A P Γ C→∀(e:Expr),zy C x e=true→∀(Q:V→St→Prop) (σ:St),wpE P x Q σ→W G A Γ (eval e Γ.env) Q σ
noncomputable def ST (G:GS) (A:Around) (P:PC) (x:Ex):Prop:= ∀(Γ:FE) (C:SC),Cx G A P Γ C→∀(e:Expr),zy C x e=true→∀(Q:Bool→St→Prop) (σ:St),wpT P x (wpE P x) Q σ→WB G A Γ (isTrue e Γ.env (eval e Γ.env)) Q σ
structure SX (G:GS) (A:Around) (P:PC) (x:Ex):Prop where
 e:SE G A P x
 t:ST G A P x
structure SL (G:GS) (A:Around) (P:PC) (xs:List Ex):Prop where
 es: ∀(Γ:FE) (C:SC),Cx G A P Γ C→∀(es:List Expr),zu C xs es=true→∀(Q:List V→St→Prop) (σ:St),zk9 P xs Q σ→Wn G A Γ es.length (spliced (es.map fun e=>(false,eval e Γ.env))) Q σ
 cs: ∀(Γ:FE) (C:SC),Cx G A P Γ C→∀(es:List Expr),zu C xs es=true→∀(Q:Bool→St→Prop) (σ:St),zia P true xs Q σ→WB G A Γ (zgw es Γ.env) Q σ
 ch: ∀(Γ:FE) (C:SC),Cx G A P Γ C→∀(es:List Expr),zu C xs es=true→∀(ops:List CmpOp) (v:V) (Q:Bool→St→Prop) (σ:St),zsk P ops xs v Q σ→∀(pos:Pos) frz s cv,Rep G Γ frz σ s→RV s.heap cv v→
  wpAny (model G.prog G.w) A (compareChain pos cv ops (evalEach es Γ.env)) (fun cr s'=> ∃b,cr= .bool b∧PB G Γ frz s Q b s') NoE s
 ct: ∀(Γ:FE) (C:SC),Cx G A P Γ C→∀(es:List Expr),zu C xs es=true→∀(ops:List CmpOp) (v:V) (Q:Bool→St→Prop) (σ:St),zsk P ops xs v Q σ→∀(pos:Pos) frz s cv,Rep G Γ frz σ s→RV s.heap cv v→
  wpAny (model G.prog G.w) A (testChain pos cv ops (evalEach es Γ.env)) (PB G Γ frz s Q) NoE s
 bo: ∀(Γ:FE) (C:SC),Cx G A P Γ C→∀(es:List Expr),zu C xs es=true→∀(k:Bool) (Q:V→St→Prop) (σ:St),zwa P k xs Q σ→∀(pos:Pos),W G A Γ (boolOp pos (if k then .And else .Or) (evalEach es Γ.env)) Q σ
 ts: ∀(Γ:FE) (C:SC),Cx G A P Γ C→∀(es:List Expr),zu C xs es=true→∀(k:Bool) (Q:Bool→St→Prop) (σ:St),zia P k xs Q σ→WB G A Γ (allTrue (if k then .And else .Or) es Γ.env) Q σ
theorem zw5 {x:Ex} (h:zf6 x=true):x= .lit .none:=by
 cases x<;>first | exact absurd h Au | skip
 rename_i v
 cases v<;>first | rfl | exact absurd h Au
theorem zi4 {Γ:FE}{C:SC}{x:Ex}{frz:Frz}{s:Shared}{Q:V→St→Prop}{σ:St} (h:zn6 C x none=true) (w:wpE P x Q σ) (r:Rep G Γ frz σ s):PV G Γ frz s Q .none s:=by
 cases zw5 h
 exact⟨_,_,.none,r,.refl _,w⟩
theorem zmo {Γ:FE}{C:SC}{x:Ex} (X:Cx G A P Γ C) (ih:SE G A P x) (e:Option Expr) (h:zn6 C x e=true) {Q:V→St→Prop}{σ:St} (w:wpE P x Q σ):
  W G A Γ (valueOrNone (evalOpt e Γ.env)) Q σ:=by
 cases e with
 | none=>exact fun frz s r=>Aj (zi4 h w r)
 | some e=>exact ih Γ C X e h _ _ w
noncomputable def zck (e:Expr):Bool:=match e with
 | .UnaryOp o _ _=>!(o== .Not)
 | e=>e.ctorIdx !=0&&(e.ctorIdx !=15&&(e.ctorIdx !=5&&e.ctorIdx !=1))
theorem zmv {e:Expr}{env:Env} (h:zck e=true):isTrue e env (eval e env)=(do let v ←eval e env;standAt e.pos;holding [v] (truthy v)):=by
 cases e<;>first | rfl | exact absurd h Au | skip
 rename_i o _ _
 cases o<;>first | rfl | exact absurd h Au
theorem zxe {x:Ex} (ih:SE G A P x) (hx: ∀C e,zy C x e=true→zck e=true) (hw: ∀(Q:Bool→St→Prop) (σ:St),wpT P x (wpE P x) Q σ→wpE P x (fun v σ₁=>zR σ₁.mem v fun b=>Q b σ₁) σ):ST G A P x:=
 fun Γ C X e h _ _ w=>zsz (ih Γ C X e h _ _ (hw _ _ w)) (zmv (hx C e h))
theorem znu {env:Env}{post:Bool→Shared→Prop}{E:Value→Shared→Prop}: ∀(es:List Expr) {s:Shared},post false s→
  wpAny (model G.prog G.w) A (forIn es false fun c r=>if r=true then do let ok ←isTrue c env (eval c env);pure (ForInStep.yield ok) else pure (ForInStep.yield r)) post E s
 | [],s,q=>Aj q
 | e::es,s,q=>by
  rw[List.forIn_cons]
  exact Ac (Aj (znu es q))
theorem zsd {env:Env}{e:Expr}{es:List Expr}{post:Bool→Shared→Prop}{E:Value→Shared→Prop}{s:Shared}
  (h:wpAny (model G.prog G.w) A (isTrue e env (eval e env)) (fun b s₁=>wpAny (model G.prog G.w) A (forIn es b fun c r=>if r=true then do let ok ←isTrue c env (eval c env);pure (ForInStep.yield ok) else pure (ForInStep.yield r)) post E s₁) E s):
  wpAny (model G.prog G.w) A (zgw (e::es) env) post E s:=by
 unfold zgw
 rw[List.forIn_cons]
 exact Ac (Ac (Bu h (fun b s₁ q=>Aj q) fun _ _ x=>x))
theorem PO.pv {Γ:FE}{frz:Frz}{σ:St}{s s₀ s':Shared}{cv:Value}{Q:V→St→Prop} (k:TK s₀.heap s.heap) (h:PO G Γ frz σ s (fun r m=>Q r {σ with mem:=m}) cv s'):PV G Γ frz s₀ Q cv s':=(h.toPV fun _ _ q=>q).after k
theorem PO.pv' {Γ:FE}{frz:Frz}{σ:St}{s s₀ s':Shared}{cv:Value}{Q:V→St→Prop} (k:TK s₀.heap s.heap) (h:PO G Γ frz σ s (fun r m=>m=σ.mem∧Q r σ) cv s'):PV G Γ frz s₀ Q cv s':=(h.toPV fun r m ⟨e,q⟩=>by subst e;exact q).after k
section
variable {a b c:Ex}{es:List Ex}
theorem z35 {v:V}:SE G A P (.lit v):=fun Γ C X e h Q σ w=>znb (e:=e) (K:=fun c=>zyi v c) (M:=fun e=>W G A Γ (eval e Γ.env) Q σ) h fun _ _ _ q=>z8h q w
theorem z59 {i:Nat}:SE G A P (.var i):=fun Γ C X e h Q σ w=>zeq (e:=e) (K:=fun n=>C.is i n) (M:=fun e=>W G A Γ (eval e Γ.env) Q σ) h fun _ _ q=>
 let ⟨_,hk⟩:=z1w X.c q
 let ⟨_,hv,q⟩:=zor w
 zzl X.ok hk hv q
theorem z5r {op:Operator} (ia:SE G A P a) (ib:SE G A P b):SE G A P (.bin op a b):=fun Γ C X e h Q σ w=>z2p h fun l r p h1 h2 frz s R=>
 wpAny_BinOp ((ia Γ C X l h1 _ _ w).then R fun cv v σ₁ s₁ a1 b1 c1 d1=>(ib Γ C X r h2 _ _ d1).then b1 fun cu u σ₂ s₂ a2 b2 c2 d2=>zq (z8q d2 b2 (a1.tk c2) a2) fun _ _ h3=>h3.pv (c1.trans c2))
theorem z2w {Γ:FE}{frz:Frz}{σ:St}{s s₀:Shared}{v:V}{cv:Value}{Q:V→St→Prop} (w:match v with | .int i=>Q (.int (-i)) σ | _=>False) (k:TK s₀.heap s.heap) (r:Rep G Γ frz σ s) (hv:RV s.heap cv v):wpAny (model G.prog G.w) A (unaryOp .USub cv) (PV G Γ frz s₀ Q) NoE s:=by
 cases v<;>first | exact False.elim w | skip
 exact hv.eI fun _=>neg_int ⟨_,_,.int _ _,r.toks _,k,w⟩
theorem z6l (ia:SE G A P a):SE G A P (.neg a):=fun Γ C X e h Q σ w=>zvy h fun y p h frz s R=>
 ze2 (arm_eval_UnaryOp _ _ _ _) (Ac ((ia Γ C X y h _ _ w).then R fun cv v σ₁ s₁ a1 b1 c1 d1=>Ac (wpAny_standAt (Bt (z2w d1 c1 b1 a1)))))
theorem z6m (ia:SE G A P a):SE G A P (.not a):=fun Γ C X e h Q σ w=>zsq h fun y p h frz s R=>
 ze2 (arm_eval_UnaryOp _ _ _ _) (Ac ((ia Γ C X y h _ _ w).then R fun cv v σ₁ s₁ a1 b1 c1 d1=>Ac (wpAny_standAt (Bt (not_of (zq (zot d1 b1 a1) fun b s₂ h2=>⟨_,_,.bool _,h2.1,c1.trans h2.2.1,h2.2.2⟩))))))
theorem ztl {cvs:List Value}{n:Nat} (h:n<1000) (l:cvs.length=n):cvs.toArray.size≤sizeLine:=by rw[List.size_toArray,l,sizeLine_eq];exact ntr (Ax h) (by decide)
theorem z3w (is:SL G A P es):SE G A P (.list es):=fun Γ C X e h Q σ w=>zx0 h fun xs p hn h frz s R=>
 List_ (ze2 (by rw[zeb h,zfo]) ((is.es Γ C X xs h _ _ w).then R fun cvs vs σ₁ s₁ l1 a1 b1 c1 d1=>wpAny_newObj_type
  ((PO.newList (Q:=fun r m=>Q r {σ₁ with mem:=m}) b1 (tk:=s₁.toks) (arr:=cvs.toArray) (List.toList_toArray.symm▸a1) d1).pv c1) (ztl hn l1)))
theorem z5v (is:SL G A P es):SE G A P (.tup es):=fun Γ C X e h Q σ w=>z3p h fun xs n p hn h frz s R=>
 Tuple_ (ze2 (by rw[zeb h,zfo]) ((is.es Γ C X xs h _ _ w).then R fun cvs vs σ₁ s₁ l1 a1 b1 c1 d1=>wpAny_newObj_type
  ((PO.newTup (Q:=fun r m=>Q r {σ₁ with mem:=m}) b1 (tk:=s₁.toks) (arr:=cvs.toArray) (List.toList_toArray.symm▸a1) d1).pv c1) (ztl hn l1)))
theorem z5m {ops:List CmpOp} (ia:SE G A P a) (is:SL G A P es):SE G A P (.cmp a ops es):=fun Γ C X e h Q σ w=>zub h fun l cs p h1 h2 frz s R=>
 ze2 ((arm_eval_Compare _ _ _ _ _).trans (by rw[zje _ h2])) (Ac ((ia Γ C X l h1 _ _ w).then R fun cv v σ₁ s₁ a1 b1 c1 d1=>
  zq (is.ch Γ C X cs h2 _ _ _ _ d1 p frz s₁ cv b1 a1) fun _ _ ⟨b,e,σ',r',q,t⟩=>⟨_,σ',e ▸ .bool _,r',c1.trans q,t⟩))
theorem z0z (is:SL G A P es):SE G A P (.band es):=fun Γ C X e h Q σ w=>zql h fun xs p h frz s R=>
 ze2 (arm_eval_BoolOp _ _ _ _) (is.bo Γ C X xs h true _ _ w p frz s R)
theorem z67 (is:SL G A P es):SE G A P (.bor es):=fun Γ C X e h Q σ w=>zwe h fun xs p h frz s R=>
 ze2 (arm_eval_BoolOp _ _ _ _) (is.bo Γ C X xs h false _ _ w p frz s R)
theorem z31 (ia:SE G A P a) (ib:SE G A P b):SE G A P (.idx a b):=fun Γ C X e h Q σ w=>z2u h fun l r p h1 h2 frz s R=>
 Subscript_ ((ia Γ C X l h1 _ _ w).then R fun cv v σ₁ s₁ a1 b1 c1 d1=>(ib Γ C X r h2 _ _ d1).then b1 fun cu u σ₂ s₂ a2 b2 c2 d2=>zq (z82 d2 b2 (a1.tk c2) a2) fun _ _ h3=>h3.pv' (c1.trans c2))
theorem z5b {lo hi st:Ex} (ia:SE G A P a) (il:SE G A P lo) (ih:SE G A P hi) (is:SE G A P st):SE G A P (.slc a lo hi st):=fun Γ C X e h Q σ w=>
 zhc (e:=e) (K:=fun v s=>zi3 s fun l u k=>zy C a v&&(zn6 C lo l&&(zn6 C hi u&&zn6 C st k))) (M:=fun e=>W G A Γ (eval e Γ.env) Q σ) h fun v sl p q=>
  zmk (e:=sl) (K:=fun l u k=>zy C a v&&(zn6 C lo l&&(zn6 C hi u&&zn6 C st k))) (M:=fun sl=>W G A Γ (eval (.Subscript v sl p) Γ.env) Q σ) q fun l u k p' q frz s R=>by
   obtain⟨q1,q⟩:=zb q
   obtain⟨q2,q⟩:=zb q
   obtain⟨q3,q4⟩:=zb q
   refine Subscript_ ((ia Γ C X v q1 _ _ w).then R fun cv v σ₁ s₁ a1 b1 c1 d1=>ze2 (arm_eval_Slice _ _ _ _ _) ?_)
   refine Ac ((zmo X il l q2 d1).then b1 fun cl l σ₂ s₂ a2 b2 c2 d2=>Ac (Bt ((zmo X ih u q3 d2).then b2 fun ch hh σ₃ s₃ a3 b3 c3 d3=>
    Ac (Bt ((zmo X is k q4 d3).then b3 fun cs ss σ₄ s₄ a4 b4 c4 d4=>wpAny_newObj_type ?_)))))
   exact zq (z76 d4 b4 (a1.tk (c2.trans (c3.trans c4))) (a2.tk (c3.trans c4)) (a3.tk c4) a4) fun _ _ h3=>h3.pv (c1.trans (c2.trans (c3.trans c4)))
theorem z3x {n:String} (ia:SE G A P a):SE G A P (.attr a n):=fun Γ C X e h Q σ w=>zwy h fun v p h1 h2 frz s R=>by
 refine ze2 ((arm_eval_Attribute _ _ _ _).trans (by rw[zo4 h1])) (Ac ((ia Γ C X v h2 _ _ w).then R fun cv v σ₁ s₁ a1 b1 c1 d1=>Ac (wpAny_standAt (Ac (Bt (zq (z4e X.g X.p.ok d1 b1 a1) fun cr s₂ h2=>?_))))))
 exact Ac (wpAny_letTemporaryGo (Aj (h2.pv' c1)))
theorem z7y {b:Bi} (is:SL G A P es):SE G A P (.bi b es):=fun Γ C X e h' Q σ w=>zjv (x:=e) (K:=fun f xs=>C.glob b.name f&&zu C es xs) (M:=fun e=>W G A Γ (eval e Γ.env) Q σ) h' fun f q xs p h frz s R=>by
 obtain⟨h1,h6⟩:=zb h
 obtain⟨rfl,hk,hd⟩:=zvo X.c h1
 refine ze2 (zdu _ _ _ _ _) (ze2 (by rw[zeb h6,zfo]) (Ac (ztf X.g X.b X.ok R hk hd (zyv (zc8 _ _) (zmy (is.es Γ C X xs h6 _ _ w).ws R fun cvs vs σ₁ s₁ a1 b1 c1 d1=>?_)))))
 exact zq (s_bi X.a X.ok d1 b1 a1) fun _ _ h3=>h3.pv c1
theorem z1v {n:String} (is:SL G A P es):SE G A P (.call n es):=fun Γ C X e h' Q σ w=>zjv (x:=e) (K:=fun f xs=>C.fns.contains n&&(C.glob n f&&zu C es xs)) (M:=fun e=>W G A Γ (eval e Γ.env) Q σ) h' fun f q xs p h frz s R=>by
 obtain⟨h0,h⟩:=zb h
 obtain⟨h1,h6⟩:=zb h
 obtain⟨rfl,hk,hd⟩:=zvo X.c h1
 obtain⟨f,hf1,hf2,hf3⟩:=X.p.call n (X.c.fns n (List.contains_iff_mem.mp h0))
 refine ze2 (zdu _ _ _ _ _) (ze2 (by rw[zeb h6,zfo]) (Ac (zxt X.g X.ok R hk hd hf1 (callWith_of (P:=G.K.In) (by rw[zc8];rfl) (keeps_K hf2) (zmy (is.es Γ C X xs h6 _ _ w).ws R fun cvs vs σ₁ s₁ a1 b1 c1 d1=>⟨b1.kin X.g,?_⟩)))))
 exact zq (hf3 _ _ _ d1 Γ frz σ₁ s₁ cvs X.ok b1 rfl a1) fun _ _ h3=>h3.pv c1
theorem z86 {m:Me} (ia:SE G A P a) (is:SL G A P es):SE G A P (.me a m es):=fun Γ C X e h Q σ w=>zmf (x:=e) (n:=m.name) (o:=a) (args:=es) (C:=C) (M:=fun e=>W G A Γ (eval e Γ.env) Q σ) h fun v q xs p h1 h2 h3 h4 h5 frz s R=>by
 refine ze2 ((arm_eval_Call _ _ _ _ _ _ _).trans (by rw[zo4 h3,zeb h5,zfo])) (Ac ((ia Γ C X v h4 _ _ w).then R fun cv v σ₁ s₁ a1 b1 c1 d1=>Ac (wpAny_standAt (zq3 h2 h1 fun pl=>z3o d1.1 b1 a1 ?_))))
 refine Calls.callWith_builtin (zc8 _ _) (zmy (is.es Γ C X xs h5 _ _ d1.2).ws b1 fun cvs vs σ₂ s₂ a2 b2 c2 d2=>?_)
 exact zq (s_me X.ok d2 b2 (a1.tk c2) a2) fun _ _ h3=>h3.pv (c1.trans c2)
theorem zx9 {n:String} (ia:SE G A P a) (is:SL G A P es):SE G A P (.imeth a n es):=fun Γ C X e h Q σ w=>
 have hm:=zb h
 zmf (x:=e) (n:=n) (o:=a) (args:=es) (C:=C) (M:=fun e=>W G A Γ (eval e Γ.env) Q σ) hm.2 fun v q xs p h1 h2 h3 h4 h5 frz s R=>by
 refine bc fun z9=>?_
 obtain⟨f,hf1,hf2,hf3,hf4,hf5⟩:=X.p.meth n (X.c.meths n (List.contains_iff_mem.mp hm.1))
 refine z9 ?_
 refine ze2 ((arm_eval_Call _ _ _ _ _ _ _).trans (by rw[zo4 h3,zeb h5,zfo])) (Ac ((ia Γ C X v h4 _ _ w).then R fun cv v σ₁ s₁ a1 b1 c1 d1=>Ac (wpAny_standAt ?_)))
 refine bc fun z9=>?_
 obtain⟨⟨a,d,fs,rfl,e1,e2,e3⟩,w1⟩:=d1
 refine z9 ?_
 refine bc fun z9=>?_
 obtain⟨es,k,I,hF,_⟩:=zof b1 e1 e2
 refine z9 ?_
 refine a1.eO (zq3 h2 h1 fun pl=>method_fn (b1.kin X.g) I (plainGet_of hf3).1 (plainGet_of hf3).2 hf1 (Bh.mp hf2) ?_ ?_)
 ·show(lookIn _ (dictOf es k)).map _=_
  rw[lookIn_dict,(zev hF).2 e3];rfl
 refine callWith_of (P:=G.K.In) (by rw[zc8];rfl) (keeps_K hf4) (zmy (is.es Γ C X xs h5 _ _ w1).ws b1 fun cvs vs σ₂ s₂ a2 b2 c2 d2=>⟨b2.kin X.g,?_⟩)
 exact zq (hf5 _ _ _ d2 Γ frz σ₂ s₂ _ X.ok b2 rfl (.cons (.obj _) a2)) fun _ _ h3=>h3.pv (c1.trans c2)
theorem zwu {i:Nat} (is:SL G A P es):SE G A P (.lcall i es):=fun Γ C X e h' Q σ w=>zjv (x:=e) (K:=fun f xs=>C.is i f&&zu C es xs) (M:=fun e=>W G A Γ (eval e Γ.env) Q σ) h' fun f q xs p h frz s R=>by
 obtain⟨h1,h⟩:=zb h
 obtain⟨k,hk⟩:=z1w X.c h1
 refine bc fun z9=>?_
 obtain⟨v,hv,w⟩:=zor w
 refine z9 ?_
 refine ze2 (zdu _ _ _ _ _) (ze2 (by rw[zeb h,zfo]) (Ac ((zzl (Q:=fun u σ'=>u=v∧σ'=σ) X.ok hk hv ⟨rfl,rfl⟩).then R fun cv v' σ₁ s₁ a1 b1 c1 ⟨e1,e2⟩=>?_)))
 subst e1 e2
 refine callWith_of (P:=fun h=> ∃a fo fd,cv= .ref a∧h.get? a=some fo∧fo.data= .func fd) (by rw[zc8];rfl) (fun h ⟨a,fo,fd,e,g,d⟩=>e▸zwn h g d)
  (zmy (is.es Γ C X xs h _ _ w).ws b1 fun cvs vs σ₂ s₂ a2 b2 c2 d2=>?_)
 refine bc fun z9=>?_
 obtain⟨a,fo,fd,rfl,g1,g2,hs⟩:=X.p.loc _ _ _ _ d2
 refine z9 ?_
 refine a1.eO ⟨⟨a,fo,fd,rfl,?_,g2⟩,?_⟩
 ·cases b2.hmem _ _ g1 with
  | fn g=>exact g
 ·exact zq (hs Γ frz σ₂ s₂ cvs X.ok b2 rfl a2) fun _ _ h3=>h3.pv (c1.trans c2)
inductive LC1 (C:SC) (elt it:Ex) (one:Bool) (is caps:List Nat) (cs:List Ex) (n:Nat) (x:Expr):Prop
 | mk (e t i:Expr) (ifs:List Expr) (sc:Scope) (p:Pos):x= .ListComp e [⟨t,i,ifs,0⟩] sc p→za3 i=true→zy C it i=true→zkq C sc n caps=true→zjy (zci C sc) one is t=true→zu (zci C sc) cs ifs=true→zy (zci C sc) elt e=true→LC1 C elt it one is caps cs n x
theorem zij {C:SC}{elt it:Ex}{one:Bool}{is caps:List Nat}{cs:List Ex}{n:Nat}{x:Expr} (h:zy C (.comp elt one is it cs n caps) x=true):LC1 C elt it one is caps cs n x:=
 z61 (e:=x) (K:=fun e gs sc=>z8b gs fun t i ifs=>za3 i&&(zy C it i&&(zkq C sc n caps&&(zjy (zci C sc) one is t&&(zu (zci C sc) cs ifs&&zy (zci C sc) elt e))))) (M:=LC1 C elt it one is caps cs n) h
  fun e gs sc p q=>zyy (M:=fun gs=>LC1 C elt it one is caps cs n (.ListComp e gs sc p)) q fun t i ifs q=>by
   obtain⟨q1,q⟩:=zb q
   obtain⟨q2,q⟩:=zb q
   obtain⟨q3,q⟩:=zb q
   obtain⟨q4,q⟩:=zb q
   exact⟨e,t,i,ifs,sc,p,rfl,q1,q2,q3,q4,(zb q).1,(zb q).2⟩
theorem Cx.comp {Γ:FE}{C:SC}{sc:Scope}{n:Nat}{caps:List Nat} (X:Cx G A P Γ C) (hc:CompOk C sc n caps) (L:Addr):Cx G A P (zc4 Γ sc L) (zci C sc):=⟨X.g,X.b,X.a,X.p,z1c X.ok X.c hc L,z3s X.ok X.c hc L⟩
theorem zm5 {Γ:FE}{C:SC}{elt:Ex}{one:Bool}{is caps:List Nat}{cs:List Ex}{n:Nat}{sc:Scope}{e t i:Expr}{ifs:List Expr}{p:Pos} (X:Cx G A P Γ C) (ie:SE G A P elt) (ic:SL G A P cs) (hc:CompOk C sc n caps) (h4:zjy (zci C sc) one is t=true) (h5:zu (zci C sc) cs ifs=true) (h6:zy (zci C sc) elt e=true) (L:Addr):
  zl8 G A (zc4 Γ sc L) (.ListComp e [⟨t,i,ifs,0⟩] sc p) (fun vs g R σ=>zed (ze7 one is) (zia P true cs) (wpE P elt) g R vs [] σ):=
 fun r hne d1 d2 ho hi ha hs w _ fin=>zy5 rfl X.a ⟨fun w _ _ _ r hv=>zxb X.a (X.comp hc L).ok (X.comp hc L).c h4 w r hv,fun w=>ic.cs _ _ (X.comp hc L) ifs h5 _ _ w,fun w=>ie _ _ (X.comp hc L) e h6 _ _ w⟩ r hne d1 d2 ho hi ha .nil (by show sma (0+_);rwa [Nat.zero_add]) w fin
theorem z0l {it:Ex}{one:Bool}{is caps:List Nat}{n:Nat} (ie:SE G A P a) (ii:SE G A P it) (ic:SL G A P es):SE G A P (.comp a one is it es n caps):=fun Γ C X e h Q σ w=>by
 refine bc fun z9=>?_
 obtain⟨e,t,i,ifs,sc,p,rfl,h1,h2,h3,h4,h5,h6⟩:=zij h
 refine z9 ?_
 exact z33 X.a X.ok X.c (zfv h3) h1 (zm5 X ie ic (zfv h3) h4 h5 h6) (ii Γ C X i h2 _ _ w)
theorem z4i (ia:ST G A P a):ST G A P (.not a):=fun Γ C X e h Q σ w=>zsq h fun y p h frz s R=>
 ze2 (arm_isTrue_UnaryOp _ _ _ _) (Ac ((ia Γ C X y h _ _ w).then R fun b σ₁ s₁ b1 c1 d1=>Aj ⟨σ₁,b1,c1,d1⟩))
theorem z0p (is:SL G A P es):ST G A P (.band es):=fun Γ C X e h Q σ w=>zql h fun xs p h frz s R=>ze2 (arm_isTrue_BoolOp _ _ _ _ _) (is.ts Γ C X xs h true _ _ w frz s R)
theorem z4h (is:SL G A P es):ST G A P (.bor es):=fun Γ C X e h Q σ w=>zwe h fun xs p h frz s R=>ze2 (arm_isTrue_BoolOp _ _ _ _ _) (is.ts Γ C X xs h false _ _ w frz s R)
theorem z57 {ops:List CmpOp} (ia:SE G A P a) (is:SL G A P es):ST G A P (.cmp a ops es):=fun Γ C X e h Q σ w=>zub h fun l cs p h1 h2 frz s R=>
 ze2 ((arm_isTrue_Compare _ _ _ _ _ _).trans (by rw[zje _ h2])) (Ac ((ia Γ C X l h1 _ _ w).then R fun cv v σ₁ s₁ a1 b1 c1 d1=>
  zq (is.ct Γ C X cs h2 _ _ _ _ d1 p frz s₁ cv b1 a1) fun _ _ h3=>h3.after c1))
theorem zzm:SL G A P [] where
 es Γ C X es h Q σ w:=by cases zbg h;exact z5z w
 cs Γ C X es h Q σ w:=by cases zbg h;exact fun frz s r=>Aj ⟨σ,r,.refl _,w⟩
 ch Γ C X es h ops v Q σ w:=by cases ops<;>exact False.elim w
 ct Γ C X es h ops v Q σ w:=by cases ops<;>exact False.elim w
 bo Γ C X es h k Q σ w:=False.elim w
 ts Γ C X es h k Q σ w:=by
  cases zbg h
  exact fun frz s r=>ze2 (arm_allTrue_nil _ _) (by cases k<;>exact Aj ⟨σ,r,.refl _,w⟩)
theorem z6k (i:SX G A P a) (is:SL G A P es): ∀(Γ:FE) (C:SC),Cx G A P Γ C→∀(xs:List Expr),zu C (a::es) xs=true→∀(Q:List V→St→Prop) (σ:St),zk9 P (a::es) Q σ→Wn G A Γ xs.length (spliced (xs.map fun e=>(false,eval e Γ.env))) Q σ:=fun Γ C X xs h Q σ w=>by
 obtain⟨e,xs,rfl,_,h1,h2⟩:=yU h
 exact z2c fun frz s r=>(i.e Γ C X e h1 _ _ w).then r fun cv v σ₁ s₁ a1 b1 c1 d1=>⟨v,σ₁,a1,b1,c1,is.es Γ C X xs h2 _ _ d1⟩
theorem z5o (i:SX G A P a) (is:SL G A P es): ∀(Γ:FE) (C:SC),Cx G A P Γ C→∀(xs:List Expr),zu C (a::es) xs=true→∀(Q:Bool→St→Prop) (σ:St),zia P true (a::es) Q σ→WB G A Γ (zgw xs Γ.env) Q σ:=fun Γ C X xs h Q σ w=>by
 obtain⟨e,xs,rfl,_,h1,h2⟩:=yU h
 refine fun frz s r=>zsd ((i.t Γ C X e h1 _ _ w).then r fun b σ₁ s₁ b1 c1 d1=>?_)
 cases b with
 | true=>exact zq (is.cs Γ C X xs h2 _ _ d1 frz s₁ b1) fun _ _ h3=>h3.after c1
 | false=>exact znu xs ⟨σ₁,b1,c1,d1⟩
theorem z0e {Γ:FE}{frz:Frz}{σ:St}{s s₀:Shared}{op:CmpOp}{v u:V}{cv cu:Value}{Q:Bool→St→Prop} (hA:Rm A) (w:zdw σ.mem op v u fun b=>Q b σ) (r:Rep G Γ frz σ s) (hv:RV s.heap cv v) (hu:RV s.heap cu u) (k:TK s₀.heap s.heap):
  wpAny (model G.prog G.w) A (compareOp op cv cu) (fun cr s'=> ∃b,cr= .bool b∧PB G Γ frz s₀ Q b s') NoE s:=
 zq (z3i hA.un w r hv hu) fun _ _ ⟨b,e,p,q,t⟩=>⟨b,e,σ,p,k.trans q,t⟩
theorem z6e (i:SX G A P a) (is:SL G A P es): ∀(Γ:FE) (C:SC),Cx G A P Γ C→∀(xs:List Expr),zu C (a::es) xs=true→∀(ops:List CmpOp) (v:V) (Q:Bool→St→Prop) (σ:St),zsk P ops (a::es) v Q σ→∀(pos:Pos) frz s cv,Rep G Γ frz σ s→RV s.heap cv v→
  wpAny (model G.prog G.w) A (compareChain pos cv ops (evalEach xs Γ.env)) (fun cr s'=> ∃b,cr= .bool b∧PB G Γ frz s Q b s') NoE s:=fun Γ C X xs h ops v Q σ w pos frz s cv r hv=>by
 obtain⟨e,xs,rfl,_,h1,h2⟩:=yU h
 cases ops with
 | nil=>exact False.elim w
 | cons op ops=>
 cases ops with
 | nil=>
  cases es with
  | cons=>exact False.elim w
  | nil=>
  cases zbg h2
  exact Ac (Bt ((i.e Γ C X e h1 _ _ w).then r fun cu u σ₁ s₁ a1 b1 c1 d1=>Ac (wpAny_standAt (wpAny_operating (z0e X.a d1 b1 (hv.tk c1) a1 c1)))))
 | cons op' ops=>
  refine Ac (Bt ((i.e Γ C X e h1 _ _ w).then r fun cu u σ₁ s₁ a1 b1 c1 d1=>Ac (wpAny_standAt ?_)))
  refine Ac (Bt (zq (z3i X.a.un d1 b1 (hv.tk c1) a1) fun cr s₂ ⟨b,e,p,q,t⟩=>?_))
  subst e
  refine Ac (zee (Ac (Bt (wpAny_truthy_bool ?_))))
  cases b with
  | true=>exact zq (is.ch Γ C X xs h2 _ _ _ _ t pos frz s₂ cu p (a1.tk q)) fun _ _ ⟨b,e,h3⟩=>⟨b,e,h3.after (c1.trans q)⟩
  | false=>exact Aj ⟨false,rfl,σ₁,p,c1.trans q,t⟩
theorem z6x (i:SX G A P a) (is:SL G A P es): ∀(Γ:FE) (C:SC),Cx G A P Γ C→∀(xs:List Expr),zu C (a::es) xs=true→∀(ops:List CmpOp) (v:V) (Q:Bool→St→Prop) (σ:St),zsk P ops (a::es) v Q σ→∀(pos:Pos) frz s cv,Rep G Γ frz σ s→RV s.heap cv v→
  wpAny (model G.prog G.w) A (testChain pos cv ops (evalEach xs Γ.env)) (PB G Γ frz s Q) NoE s:=fun Γ C X xs h ops v Q σ w pos frz s cv r hv=>by
 obtain⟨e,xs,rfl,_,h1,h2⟩:=yU h
 cases ops with
 | nil=>exact False.elim w
 | cons op ops=>
 cases ops with
 | nil=>
  cases es with
  | cons=>exact False.elim w
  | nil=>
  cases zbg h2
  exact Ac (Bt ((i.e Γ C X e h1 _ _ w).then r fun cu u σ₁ s₁ a1 b1 c1 d1=>Ac (wpAny_standAt (Ac (wpAny_operating (zq (z0e X.a d1 b1 (hv.tk c1) a1 c1) fun _ _ ⟨b,e,t⟩=>by subst e;exact Bt (wpAny_truthy_bool t)))))))
 | cons op' ops=>
  refine Ac (Bt ((i.e Γ C X e h1 _ _ w).then r fun cu u σ₁ s₁ a1 b1 c1 d1=>Ac (wpAny_standAt ?_)))
  refine Ac (Bt (zq (z3i X.a.un d1 b1 (hv.tk c1) a1) fun cr s₂ ⟨b,e,p,q,t⟩=>?_))
  subst e
  refine Ac (zee (Ac (Bt (wpAny_truthy_bool ?_))))
  cases b with
  | true=>exact zq (is.ct Γ C X xs h2 _ _ _ _ t pos frz s₂ cu p (a1.tk q)) fun _ _ h3=>h3.after (c1.trans q)
  | false=>exact Aj ⟨σ₁,p,c1.trans q,t⟩
theorem z60 (i:SX G A P a) (is:SL G A P es): ∀(Γ:FE) (C:SC),Cx G A P Γ C→∀(xs:List Expr),zu C (a::es) xs=true→∀(k:Bool) (Q:V→St→Prop) (σ:St),zwa P k (a::es) Q σ→∀(pos:Pos),W G A Γ (boolOp pos (if k then .And else .Or) (evalEach xs Γ.env)) Q σ:=fun Γ C X xs h k Q σ w pos frz s r=>by
 obtain⟨e,xs,rfl,_,h1,h2⟩:=yU h
 cases es with
 | nil=>
  cases zbg h2
  exact i.e Γ C X e h1 _ _ w frz s r
 | cons x' es=>
  have ih: ∀{s₂:Shared} {σ₁:St},TK s.heap s₂.heap→Rep G Γ frz σ₁ s₂→zwa P k (x'::es) Q σ₁→wpAny (model G.prog G.w) A (boolOp pos (if k then .And else .Or) (evalEach xs Γ.env)) (PV G Γ frz s Q) NoE s₂:=fun c1 p t=>zq (is.bo Γ C X xs h2 k _ _ t pos frz _ p) fun _ _ h3=>h3.after c1
  obtain⟨e',es',rfl,_,hx⟩:=yU h2
  refine Ac ((i.e Γ C X e h1 _ _ w).then r fun cv v σ₁ s₁ a1 b1 c1 d1=>Ac (wpAny_standAt (Ac (Bt (zq (zot d1 b1 a1) fun b s₂ h3=>?_)))))
  obtain⟨p,q,t⟩:=h3
  cases k<;>cases b
  ·exact ih (c1.trans q) p t
  ·exact Aj ⟨v,σ₁,a1.tk q,p,c1.trans q,t⟩
  ·exact Aj ⟨v,σ₁,a1.tk q,p,c1.trans q,t⟩
  ·exact ih (c1.trans q) p t
theorem z6a (i:SX G A P a) (is:SL G A P es): ∀(Γ:FE) (C:SC),Cx G A P Γ C→∀(xs:List Expr),zu C (a::es) xs=true→∀(k:Bool) (Q:Bool→St→Prop) (σ:St),zia P k (a::es) Q σ→WB G A Γ (allTrue (if k then .And else .Or) xs Γ.env) Q σ:=fun Γ C X xs h k Q σ w frz s r=>by
 obtain⟨e,xs,rfl,_,h1,h2⟩:=yU h
 refine ze2 (arm_allTrue_cons _ _ _ _) (Ac ((i.t Γ C X e h1 _ _ w).then r fun b σ₁ s₁ b1 c1 d1=>?_))
 cases k<;>cases b
 ·exact zq (is.ts Γ C X xs h2 false _ _ d1 frz s₁ b1) fun _ _ h3=>h3.after c1
 ·exact Aj ⟨σ₁,b1,c1,d1⟩
 ·exact Aj ⟨σ₁,b1,c1,d1⟩
 ·exact zq (is.ts Γ C X xs h2 true _ _ d1 frz s₁ b1) fun _ _ h3=>h3.after c1
end
theorem sx {x:Ex} (hw: ∀(Q:Bool→St→Prop) (σ:St),wpT P x (wpE P x) Q σ→wpE P x (fun v σ₁=>zR σ₁.mem v fun b=>Q b σ₁) σ) (ih:SE G A P x) (hx: ∀C e,zy C x e=true→zck e=true):SX G A P x:=⟨ih,zxe ih hx hw⟩
theorem zio {e:Expr}{K:Expr→List Expr→List Keyword→Pos→Bool} (h:zf7 e K=true):zck e=true:=zld (e:=e) (K:=K) (M:=fun e=>zck e=true) h fun _ _ _ _ _=>rfl
theorem z0h {e:Expr}{K:Expr→Expr→Bool} (h:zm0 e K=true):zck e=true:=zhc (e:=e) (K:=K) (M:=fun e=>zck e=true) h fun _ _ _ _=>rfl
theorem z4k {C:SC}{a:Ex}{e:Expr} (h:zy C (.neg a) e=true):zck e=true:=by refine zvy h ?_;intro _ _ _;rfl
theorem yO:(x:Ex)→SX G A P x:=Ex.rec (motive_1:=SX G A P) (motive_2:=SL G A P)
 (fun v=>sx (fun _ _ w=>w) z35 fun _ e h=>znb (e:=e) (K:=fun c=>zyi v c) (M:=fun e=>zck e=true) h fun _ _ _ _=>rfl)
 (fun i=>sx (fun _ _ w=>w) z59 fun C e h=>zeq (e:=e) (K:=fun n=>C.is i n) (M:=fun e=>zck e=true) h fun _ _ _=>rfl)
 (fun op a b ia ib=>sx (fun _ _ w=>w) (z5r ia.e ib.e) fun C e h=>zwg (e:=e) (K:=fun l o r=>op==o&&(zy C a l&&zy C b r)) (M:=fun e=>zck e=true) h fun _ _ _ _ _=>rfl)
 (fun a ia=>sx (fun _ _ w=>w) (z6l ia.e) fun C e h=>z4k h)
 (fun a ia=>⟨z6m ia.e,z4i ia.t⟩)
 (fun es is=>sx (fun _ _ w=>w) (z3w is) fun C e h=>zq2 (e:=e) (K:=fun xs=>decide (xs.length<1000)&&zu C es xs) (M:=fun e=>zck e=true) h fun _ _ _=>rfl)
 (fun es is=>sx (fun _ _ w=>w) (z5v is) fun C e h=>zlv (e:=e) (K:=fun xs=>decide (xs.length<1000)&&zu C es xs) (M:=fun e=>zck e=true) h fun _ _ _ _=>rfl)
 (fun a ops es ia is=>⟨z5m ia.e is,z57 ia.e is⟩)
 (fun es is=>⟨z0z is,z0p is⟩)
 (fun es is=>⟨z67 is,z4h is⟩)
 (fun a i ia ii=>sx (fun _ _ w=>w) (z31 ia.e ii.e) fun _ _ h=>z0h h)
 (fun a lo hi st ia il ih is=>sx (fun _ _ w=>w) (z5b ia.e il.e ih.e is.e) fun _ _ h=>z0h h)
 (fun o n io=>sx (fun _ _ w=>w) (z3x io.e) fun C e h=>zil (e:=e) (K:=fun v y _=>Str.ofString n==y&&(zb9 v&&zy C o v)) (M:=fun e=>zck e=true) h fun _ _ _ _=>rfl)
 (fun b es is=>sx (fun _ _ w=>w) (z7y is) fun _ _ h=>zio h)
 (fun f es is=>sx (fun _ _ w=>w) (z1v is) fun _ _ h=>zio h)
 (fun o m es io is=>sx (fun _ _ w=>w) (z86 io.e is) fun _ _ h=>zio h)
 (fun o n es io is=>sx (fun _ _ w=>w) (zx9 io.e is) fun _ _ h=>zio (zb h).2)
 (fun i es is=>sx (fun _ _ w=>w) (zwu is) fun _ _ h=>zio h)
 (fun elt one is it cs n caps ie ii ic=>sx (fun _ _ w=>w) (z0l ie.e ii.e ic) fun _ e h=>by obtain⟨_,_,_,_,_,_,rfl,_⟩:=zij h;rfl)
 zzm
 (fun x xs ix is=>⟨z6k ix is,z5o ix is,z6e ix is,z6x ix is,z60 ix is,z6a ix is⟩)
theorem zjc: ∀xs:List Ex,SL G A P xs
 | []=>zzm
 | x::xs=>⟨z6k (yO x) (zjc xs),z5o (yO x) (zjc xs),z6e (yO x) (zjc xs),z6x (yO x) (zjc xs),z60 (yO x) (zjc xs),z6a (yO x) (zjc xs)⟩
end
noncomputable def notComp (e:Expr):Bool:=e.ctorIdx !=8&&(e.ctorIdx !=9&&e.ctorIdx !=10)
noncomputable def zd9:Ex→Bool
 | .comp ..=>true
 | _=>false
theorem zkk {value:Expr} (h:notComp value=true) (t:Option Expr) (l:Nat) (env:Env):swapsWith value t l env=pure false:=by
 cases value<;>first | exact absurd h Au | rfl
theorem zrl {value:Expr} (h:notComp value=true) (l:Nat) (env:Env): ∀targets,swapsWithSole targets value l env=pure false
 | []=>rfl
 | [_]=>zkk h _ _ _
 | _::_::_=>rfl
noncomputable def zkf (C:SC) (t:Tg) (x:Expr):Bool:=match t with
 | .var i=>zcw x fun n=>C.isW i n
 | .tup is=>isTup x fun xs=>zf5 is&&zg4 C is xs
 | .idx o i=>zm0 x fun v s=>zy C o v&&zy C i s
 | .slc o lo hi=>zm0 x fun v s=>zi3 s fun l u k=>k.isNone&&(zy C o v&&(zn6 C lo l&&zn6 C hi u))
 | .attr o n=>zjb x fun v y _=>Str.ofString n==y&&zy C o v
noncomputable def zch (C:SC):List Tg→List Expr→Bool
 | [],xs=>xs.isEmpty
 | t::ts,xs=>xs.head?.any fun e=>za3 e&&zkf C t e&&zch C ts xs.tail
theorem zg7 {C:SC}{xs:List Expr} (h:zch C [] xs=true):xs=[]:=by
 cases xs with
 | nil=>rfl
 | cons=>cases h
theorem zby {C:SC}{t:Tg}{ts:List Tg}{xs:List Expr} (h:zch C (t::ts) xs=true): ∃e es,xs=e::es∧za3 e=true∧zkf C t e=true∧zch C ts es=true:=by
 cases xs with
 | nil=>cases h
 | cons e es=>
  have h:(za3 e&&zkf C t e&&zch C ts es)=true:=h
  rw[Cc,Cc] at h
  exact⟨e,es,rfl,h.1.1,h.1.2,h.2⟩
noncomputable def zqb (targets:List Expr) (value:Expr):Bool:=
 targets.head?.any fun t=>t.ctorIdx !=24&&(t.ctorIdx !=25||(value.ctorIdx !=25||isTup value fun vs=>!vs.all (constantsAlone 8)||vs.all (foldedForSure 8)))
noncomputable def zsp (x:Stmt) (K:Expr→Bool):Bool:=if h:x.ctorIdx=24 then Stmt.Expr.elim (motive_2:=fun _=>Bool) x h fun y _=>K y else false
theorem zt9 {x:Stmt}{K:Expr→Bool}{M:Stmt→Prop} (h:zsp x K=true) (kk: ∀(y:Expr) (p:Pos),K y=true→M (.Expr y p)):M x:=
 let ⟨i,q⟩:=zcf h
 Stmt.Expr.elim (motive_2:=fun x=> ∀i,Stmt.Expr.elim (motive_2:=fun _=>Bool) x i (fun y _=>K y)=true→M x) x i (fun y p _ q=>kk y p q) i q
noncomputable def zp8 (x:Stmt) (K:List Expr→Expr→Bool):Bool:=if h:x.ctorIdx=5 then Stmt.Assign.elim (motive_2:=fun _=>Bool) x h fun xs y _=>K xs y else false
theorem zsb {x:Stmt}{K:List Expr→Expr→Bool}{M:Stmt→Prop} (h:zp8 x K=true) (kk: ∀(xs:List Expr) (y:Expr) (p:Pos),K xs y=true→M (.Assign xs y p)):M x:=
 let ⟨i,q⟩:=zcf h
 Stmt.Assign.elim (motive_2:=fun x=> ∀i,Stmt.Assign.elim (motive_2:=fun _=>Bool) x i (fun xs y _=>K xs y)=true→M x) x i (fun xs y p _ q=>kk xs y p q) i q
noncomputable def z4w (x:Stmt) (K:Expr→Operator→Expr→Bool):Bool:=if h:x.ctorIdx=7 then Stmt.AugAssign.elim (motive_2:=fun _=>Bool) x h fun t o y _=>K t o y else false
theorem z3q {x:Stmt}{K:Expr→Operator→Expr→Bool}{M:Stmt→Prop} (h:z4w x K=true) (kk: ∀(t:Expr) (o:Operator) (y:Expr) (p:Pos),K t o y=true→M (.AugAssign t o y p)):M x:=
 let ⟨i,q⟩:=zcf h
 Stmt.AugAssign.elim (motive_2:=fun x=> ∀i,Stmt.AugAssign.elim (motive_2:=fun _=>Bool) x i (fun t o y _=>K t o y)=true→M x) x i (fun t o y p _ q=>kk t o y p q) i q
noncomputable def z4x (x:Stmt) (K:Expr→List Stmt→List Stmt→Bool):Bool:=if h:x.ctorIdx=12 then Stmt.If.elim (motive_2:=fun _=>Bool) x h fun t y z _=>K t y z else false
theorem z1t {x:Stmt}{K:Expr→List Stmt→List Stmt→Bool}{M:Stmt→Prop} (h:z4x x K=true) (kk: ∀(t:Expr) (y:List Stmt) (z:List Stmt) (p:Pos),K t y z=true→M (.If t y z p)):M x:=
 let ⟨i,q⟩:=zcf h
 Stmt.If.elim (motive_2:=fun x=> ∀i,Stmt.If.elim (motive_2:=fun _=>Bool) x i (fun t y z _=>K t y z)=true→M x) x i (fun t y z p _ q=>kk t y z p q) i q
noncomputable def zs0 (x:Stmt) (K:Expr→List Stmt→List Stmt→Bool):Bool:=if h:x.ctorIdx=11 then Stmt.While.elim (motive_2:=fun _=>Bool) x h fun t y z _=>K t y z else false
theorem zur {x:Stmt}{K:Expr→List Stmt→List Stmt→Bool}{M:Stmt→Prop} (h:zs0 x K=true) (kk: ∀(t:Expr) (y:List Stmt) (z:List Stmt) (p:Pos),K t y z=true→M (.While t y z p)):M x:=
 let ⟨i,q⟩:=zcf h
 Stmt.While.elim (motive_2:=fun x=> ∀i,Stmt.While.elim (motive_2:=fun _=>Bool) x i (fun t y z _=>K t y z)=true→M x) x i (fun t y z p _ q=>kk t y z p q) i q
noncomputable def z4n (x:Stmt) (K:Expr→Expr→List Stmt→List Stmt→Bool):Bool:=if h:x.ctorIdx=9 then Stmt.For.elim (motive_2:=fun _=>Bool) x h fun tg e y z _=>K tg e y z else false
theorem z0w {x:Stmt}{K:Expr→Expr→List Stmt→List Stmt→Bool}{M:Stmt→Prop} (h:z4n x K=true) (kk: ∀(tg:Expr) (e:Expr) (y:List Stmt) (z:List Stmt) (p:Pos),K tg e y z=true→M (.For tg e y z p)):M x:=
 let ⟨i,q⟩:=zcf h
 Stmt.For.elim (motive_2:=fun x=> ∀i,Stmt.For.elim (motive_2:=fun _=>Bool) x i (fun tg e y z _=>K tg e y z)=true→M x) x i (fun tg e y z p _ q=>kk tg e y z p q) i q
noncomputable def z4j (x:Stmt) (K:Option Expr→Bool):Bool:=if h:x.ctorIdx=3 then Stmt.Return.elim (motive_2:=fun _=>Bool) x h fun y _=>K y else false
theorem z13 {x:Stmt}{K:Option Expr→Bool}{M:Stmt→Prop} (h:z4j x K=true) (kk: ∀(y:Option Expr) (p:Pos),K y=true→M (.Return y p)):M x:=
 let ⟨i,q⟩:=zcf h
 Stmt.Return.elim (motive_2:=fun x=> ∀i,Stmt.Return.elim (motive_2:=fun _=>Bool) x i (fun y _=>K y)=true→M x) x i (fun y p _ q=>kk y p q) i q
noncomputable def z69 (x:Stmt) (K:Pos→Bool):Bool:=if h:x.ctorIdx=26 then Stmt.Break.elim (motive_2:=fun _=>Bool) x h fun p=>K p else false
theorem z0q {x:Stmt}{K:Pos→Bool}{M:Stmt→Prop} (h:z69 x K=true) (kk: ∀(p:Pos),K p=true→M (.Break p)):M x:=
 let ⟨i,q⟩:=zcf h
 Stmt.Break.elim (motive_2:=fun x=> ∀i,Stmt.Break.elim (motive_2:=fun _=>Bool) x i (fun p=>K p)=true→M x) x i (fun p _ q=>kk p q) i q
noncomputable def z6n (x:Stmt) (K:List Expr→Bool):Bool:=if h:x.ctorIdx=4 then Stmt.Delete.elim (motive_2:=fun _=>Bool) x h fun xs _=>K xs else false
theorem z2x {x:Stmt}{K:List Expr→Bool}{M:Stmt→Prop} (h:z6n x K=true) (kk: ∀(xs:List Expr) (p:Pos),K xs=true→M (.Delete xs p)):M x:=
 let ⟨i,q⟩:=zcf h
 Stmt.Delete.elim (motive_2:=fun x=> ∀i,Stmt.Delete.elim (motive_2:=fun _=>Bool) x i (fun xs _=>K xs)=true→M x) x i (fun xs p _ q=>kk xs p q) i q
noncomputable def z83 (xs:List Expr) (K:Expr→Bool):Bool:=match xs with
 | []=>false
 | y::r=>r.isEmpty&&K y
theorem zx4 {xs:List Expr}{K:Expr→Bool} (h:z83 xs K=true): ∃y,xs=[y]∧K y=true:=by
 match xs,h with
 | [y],h=>exact⟨y,rfl,h⟩
noncomputable def zze (x:Sm):Bool:=match x with
 | .junk=>true
 | _=>false
theorem zry {x:Sm} (h:zze x=true):x= .junk:=by cases x<;>first | rfl | exact absurd h Au
mutual
noncomputable def z7t (C:SC):Sm→Stmt→Bool
 | .expr e,x=>zsp x fun y=>notComp y&&zy C e y
 | .assign ts e,x=>zp8 x fun xs y=>(zd9 e||notComp y)&&(zqb xs y&&(zch C ts xs&&zy C e y))
 | .aug i op e,x=>z4w x fun t o y=>zcw t fun n=>C.isW i n&&(op==o&&zy C e y)
 | .del o i,x=>z6n x fun xs=>z83 xs fun y=>zm0 y fun v s=>zy C o v&&zy C i s
 | .ife c a b,x=>z4x x fun t y z=>zy C c t&&(zda C a y&&zda C b z)
 | .whl c b,x=>zs0 x fun t y z=>z.isEmpty&&(zy C c t&&zda C b y)
 | .fr t it b,x=>z4n x fun tg e y z=>z.isEmpty&&(za3 e&&(zkf C t tg&&(zy C it e&&zda C b y)))
 | .ret e,x=>z4j x fun y=>zn6 C e y
 | .brk,x=>z69 x fun _=>true
 | .junk,_=>false
noncomputable def zda (C:SC):List Sm→List Stmt→Bool
 | [],xs=>xs.isEmpty
 | a::as,xs=>zze a||xs.head?.any fun e=>z7t C a e&&zda C as xs.tail
end
theorem zm8 {C:SC}{xs:List Stmt} (h:zda C [] xs=true):xs=[]:=by
 cases xs with
 | nil=>rfl
 | cons=>cases h
theorem zkw {C:SC}{t:Sm}{ts:List Sm}{xs:List Stmt} (h:zda C (t::ts) xs=true):t= .junk∨∃e es,xs=e::es∧z7t C t e=true∧zda C ts es=true:=by
 rcases (Ca _ _).mp h with h | h
 ·exact .inl (zry h)
 ·cases xs with
  | nil=>cases h
  | cons e es=>exact .inr ⟨e,es,rfl,zb h⟩
section
variable {G:GS}{A:Around}{Γ:FE}{frz:Frz}{σ:St}{s:Shared}
theorem zhx {l:Addr}{arr:Array Value}{n:Nat}{k:Int}{t:Tok}{j:Nat}{v:Value}{E:Value→Shared→Prop}{Q:Unit→Shared→Prop} (hl:s.heap.get? l=some {cls:= .type "list",data:= .seq arr n})
  (hk:zr k) (hj:seqIndex? k arr.size=some j) (h:Q () {s with heap:=s.heap.update l (Obj.mapSeq (·.setIfInBounds j v))}):wpAny (model G.prog G.w) A (setItem (.ref l) (.int k t) v) Q E s:=by
 have hL:s.heap.IsList l arr:=⟨_,hl,rfl,n,rfl⟩
 obtain⟨j0,hx⟩:j<arr.size∧(0≤k→j=k.toNat):=⟨(zfn hj).1,(zfn hj).2⟩
 have hx':arr[j]? =some arr[j]:=Array.getElem?_eq_getElem j0
 unfold setItem
 try with_reducible refine Bt ?_
 first | refine Ac (Aj ?_) | skip
 refine Ac (wpAny_sequenceKey hL.typeIs (by decide) ?_)
 refine Ac (wpAny_callSpecial?_slot (name:=Str.ofString "__setitem__") hL.typeIs slot_list_setitem
  (wpAny_call_entry slot_list_setitem hL.typeIs entry_list_setitem ?_ (args_list_setitem _ _ _)))
 show wpAny _ _ (Builtin.List.listSubscript? (.int k t) >>=_) _ _ s
 refine Ac (wpAny_listSubscript_int (zin hk) ?_)
 by_cases h0:0≤k
 ·have:=hx h0
  subst this
  obtain⟨j,rfl⟩:=Int.eq_ofNat_of_zero_le h0
  show wpAny _ _ ((seqItemAt l j >>=fun r=>pure (r.map (j,·))) >>=_) _ _ s
  refine Ac (Ac (wpAny_seqItemAt hl rfl (Aj ?_)))
  rw[show arr[j]? =some arr[j] from hx']
  show wpAny _ _ (setSeqItemAt l j v >>=_) _ _ s
  refine Ac (wpAny_setSeqItemAt hl rfl ?_)
  first
   | exact Ac (Aj (Aj ⟨.none,rfl,Aj h⟩))
   | exact Aj ⟨.none,rfl,Aj h⟩
 ·refine bc fun z9=>?_
  obtain⟨m,rfl⟩: ∃m:Nat,k=Int.negSucc m:=⟨(-k-1).toNat,by grind⟩
  refine z9 ?_
  show wpAny _ _ ((Builtin.List.listItems (.ref l) >>=fun xs=>pure ((seqIndex? (Int.negSucc m) xs.size).bind fun j=>xs[j]?.map (j,·))) >>=_) _ _ s
  refine Ac (Ac (wpAny_listItems hl rfl (Aj ?_)))
  rw[hj]
  simp only[Option.bind_some,hx',Option.map_some]
  show wpAny _ _ (setSeqItemAt l j v >>=_) _ _ s
  refine Ac (wpAny_setSeqItemAt hl rfl ?_)
  first
   | exact Ac (Aj (Aj ⟨.none,rfl,Aj h⟩))
   | exact Aj ⟨.none,rfl,Aj h⟩
theorem zyf {arr new:Array Value}{x y:Int} (hz:arr.size+new.size≤2000000):(arr.extract 0 x.toNat++new++arr.extract (max x y).toNat arr.size).size≤sizeLine+1:=by
 have h:min x.toNat arr.size+(arr.size-(max x y).toNat)≤arr.size:=by
  rcases Nat.le_total x.toNat arr.size with h | h
  ·rw[Aw h]
   exact ntr (Nat.add_le_add_left (Nat.sub_le_sub_left (Int.toNat_le_toNat (Int.le_max_left x y)) _) _) (Nat.le_of_eq (Nat.add_sub_cancel' h))
  ·rw[Nat.min_eq_right h,Bz (ntr h (Int.toNat_le_toNat (Int.le_max_left x y)))];exact Al _
 rw[Array.size_append,Array.size_append,Array.size_extract,Array.size_extract,Nat.min_self,Nat.sub_zero,sizeLine_eq,Nat.add_right_comm]
 exact ntr (Nat.add_le_add_right h _) (ntr hz (by decide))
theorem zgd {l sl b:Addr}{arr new:Array Value}{n:Nat}{vl vu:Value}{lo hi:Option Int}{E:Value→Shared→Prop}{Q:Unit→Shared→Prop} (hl:s.heap.get? l=some {cls:= .type "list",data:= .seq arr n})
  (hs:s.heap.IsSliceOf sl vl vu .none) (pl:IsPart vl lo) (pu:IsPart vu hi) (hb:s.heap.IsList b new) (hne:l≠b) (hz:arr.size+new.size≤2000000)
  (h:Q () {s with heap:=s.heap.update l (Obj.mapSeq fun xs=>xs.extract 0 (sliceBounds lo hi none arr.size).1.toNat++new++xs.extract (max (sliceBounds lo hi none arr.size).1 (sliceBounds lo hi none arr.size).2.1).toNat xs.size)}):
  wpAny (model G.prog G.w) A (setItem (.ref l) (.ref sl) (.ref b)) Q E s:=by
 have hL:s.heap.IsList l arr:=⟨_,hl,rfl,n,rfl⟩
 obtain⟨os,hos,hcs,hds⟩:=id hs
 obtain⟨ob,hob,hcb,nb,hdb⟩:=id hb
 have hTs:s.TypeIs (.ref sl) "slice":=⟨os,hos,hcs⟩
 unfold setItem
 try with_reducible refine Bt ?_
 first | refine Ac (Aj ?_) | skip
 refine Ac (wpAny_sequenceKey hL.typeIs (by decide) ?_)
 refine Ac (wpAny_callSpecial?_slot (name:=Str.ofString "__setitem__") hL.typeIs slot_list_setitem
  (wpAny_call_entry slot_list_setitem hL.typeIs entry_list_setitem ?_ (args_list_setitem _ _ _)))
 show wpAny _ _ (Builtin.List.listSubscript? (.ref sl) >>=_) _ _ s
 refine Ac ?_
 unfold Builtin.List.listSubscript?
 refine Ac (wpAny_specialOf hTs slice_no_index ?_)
 (dsimp only[Option.isNone_none,if_true];simp only[Option.isNone_none,if_true])
 refine Aj ?_
 show wpAny _ _ (typeOf (.ref sl) >>=_) _ _ s
 refine Ac (wpAny_typeOf hTs ?_)
 rw[if_neg (by decide)]
 rw[listSliceParts_eq]
 refine Ac (Ac (wpAny_field hos hds (x:= .none) rfl (Ac (wpAny_listPart .none ?_))))
 rw[if_neg (show ¬((rawPart none==rawInt 0)=true) from Au)]
 refine Ac (wpAny_field hos hds (x:=vl) rfl (Ac (wpAny_listPart pl ?_)))
 refine Ac (wpAny_field hos hds (x:=vu) rfl (Ac (wpAny_listPart pu (Aj ?_))))
 dsimp only
 rw[if_neg (show ¬(Builtin.List.listSameRef (.ref l) (.ref b)=true) by simpa [Builtin.List.listSameRef] using hne)]
 refine Ac ?_
 unfold Builtin.List.listAllItems
 refine Ac (wpAny_typeOf hb.typeIs ?_)
 rw[if_pos (by decide)]
 unfold Builtin.List.listItems
 refine Ac (wpAny_seqItems hob hdb (Aj ?_))
 refine Ac (Ac (wpAny_seqItems hl rfl (Aj ?_)))
 refine Ac (wpAny_of_eq (sliceIndices_raw lo hi none arr.size (by simp)) ?_)
 have hst:(sliceBounds lo hi none arr.size).2.2=1:=rfl
 generalize hB:sliceBounds lo hi none arr.size=B at h hst ⊢
 obtain⟨x,y,z⟩:=B
 dsimp only at hst h ⊢
 subst hst
 rw[if_pos (by decide)]
 refine Ac (wpAny_rule ?_)
 rw[if_neg (by simp[Builtin.List.listTooLong,sizeLine];exact ze 509537398343633850088033730280559656 rfl hz)]
 have hz':((fun xs:Array Value=>xs.extract 0 x.toNat++new++xs.extract (max x y).toNat xs.size) arr).size≤sizeLine+1:=zyf hz
 refine Ac (wpAny_updateSeq (f:=fun xs:Array Value=>xs.extract 0 x.toNat++new++xs.extract (max x y).toNat xs.size) hl rfl ?_ (hz:=by rw[sizeLine_eq];exact ze 497595115569372048514168807494696 rfl hz) (_hz':=hz'))
 refine Ac (wpAny_letGo ?_)
 first
  | exact Ac (Aj (Aj ⟨.none,rfl,Aj h⟩))
  | exact Aj ⟨.none,rfl,Aj h⟩
theorem z1k (a b:Nat):(max (a:Int) (b:Int)).toNat=max a b:=by
 rcases Nat.le_total a b with h | h
 ·rw[Int.max_eq_right (Int.ofNat_le.mpr h),Nat.max_eq_right h];rfl
 ·rw[Int.max_eq_left (Int.ofNat_le.mpr h),Nat.max_eq_left h];rfl
theorem zkz {lo hi:Option Int}{n:Nat}:(sliceBounds lo hi none n).1.toNat=zfj n lo∧(max (sliceBounds lo hi none n).1 (sliceBounds lo hi none n).2.1).toNat=max (zfj n lo) (zh5 n hi):=by
 rw[sliceBounds_plain]
 exact⟨Int.toNat_natCast _,by show(max ((zfj n lo:Nat):Int) ((zh5 n hi:Nat):Int)).toNat=_;exact z1k _ _⟩
theorem zrn {l b sl:Addr}{vs us:List V}{lo hi:Option Int}{vl vu:Value} (ok:Γ.ok) (r:Rep G Γ frz σ s) (e:σ.mem l=some (.list vs)) (eb:σ.mem b=some (.list us)) (hne:l≠b) (h1:sma vs.length) (h2:sma us.length)
  (hs:s.heap.IsSliceOf sl vl vu .none) (pl:IsPart vl lo) (pu:IsPart vu hi):
  wpAny (model G.prog G.w) A (setItem (.ref l) (.ref sl) (.ref b)) (fun _ s'=>Rep G Γ frz {σ with mem:=upd σ.mem l (.list (vs.take (zfj vs.length lo)++us++vs.drop (max (zfj vs.length lo) (zh5 vs.length hi))))} s'∧TK s.heap s'.heap) NoE s:=by
 refine bc fun z9=>?_
 obtain⟨arr,n,g,rs,hz⟩:=(r.hmem _ _ e).l
 refine z9 ?_
 refine bc fun z9=>?_
 obtain⟨arr2,n2,g2,rs2,hz2⟩:=(r.hmem _ _ eb).l
 refine z9 ?_
 refine zgd g hs pl pu ⟨_,g2,rfl,n2,rfl⟩ hne (by rw[hz,hz2];exact Nat.add_le_add h1 h2) ?_
 have key: ∀h',TK s.heap h'→RVs h' (arr.extract 0 (sliceBounds lo hi none arr.size).1.toNat++arr2++arr.extract (max (sliceBounds lo hi none arr.size).1 (sliceBounds lo hi none arr.size).2.1).toNat arr.size).toList
   (vs.take (zfj vs.length lo)++us++vs.drop (max (zfj vs.length lo) (zh5 vs.length hi))):=fun h' k=>by
  simp only[zkz.1,zkz.2,Array.toList_append,Array.toList_append,Array.toList_extract,Array.toList_extract,List.extract_eq_take_drop,List.extract_eq_take_drop,List.drop_zero,Nat.sub_zero,hz]
  refine((rs.tk k).take _ |>.append (rs2.tk k)).append ?_
  rw[Bd (by rw[Ap,Bx,hz];exact Al _)]
  exact(rs.tk k).drop _
 exact r.change ok (tk:=s.toks) (o:= .list _) e (fun b o hb e=>(Heap.get?_update_other _ _ (Ne.symm hb)).trans e) (fun k=> .list (Heap.get?_update_self _ g rfl) (key _ k))
theorem zso {l:Addr}{vs:List V}{k:Int}{j:Nat}{v:V}{cv ck:Value} (ok:Γ.ok) (r:Rep G Γ frz σ s) (e:σ.mem l=some (.list vs)) (hk:zr k) (hj:zn4 vs.length k=some j) (hc:RV s.heap ck (.int k)) (hv:RV s.heap cv v):
  wpAny (model G.prog G.w) A (setItem (.ref l) ck cv) (fun _ s'=>Rep G Γ frz {σ with mem:=upd σ.mem l (.list (vs.set j v))} s'∧TK s.heap s'.heap) NoE s:=by
 refine bc fun z9=>?_
 obtain⟨arr,n,g,rs,hz⟩:=(r.hmem _ _ e).l
 refine z9 ?_
 exact hc.eI fun _=>zhx g hk (by rw[hz];exact hj) (r.change ok (tk:=s.toks) (o:= .list (vs.set j v)) e (h':=s.heap.update l (Obj.mapSeq (·.setIfInBounds j cv))) (fun b o hb e=>(Heap.get?_update_other _ _ (Ne.symm hb)).trans e)
  (fun k=> .list (Heap.get?_update_self _ g rfl) (by show RVs _ (arr.setIfInBounds j cv).toList _;rw[Array.toList_setIfInBounds];exact(rs.tk k).set j (hv.tk k))))
theorem zvt {α:Type}{c:Prop} [Decidable c] {a b:α} (P:α→Prop) (h1:c→P a) (h2: ¬c→P b):P (if c then a else b):=by
 by_cases h:c
 ·rw[if_pos h];exact h1 h
 ·rw[if_neg h];exact h2 h
theorem zr4 {ts vs:List Expr}{k k':Nat}{p p':Pos}{env:Env} (h:(!vs.all (constantsAlone 8)||vs.all (foldedForSure 8))=true):
  swappedStores [.Tuple ts k p] (.Tuple vs k' p') env=pure none∨∃f,swappedStores [.Tuple ts k p] (.Tuple vs k' p') env=pure (some (ts.filterMap (yX f)))∧(ts.filterMap (yX f)).length=ts.length∧(ts.length=2∨ts.length=3):=by
 refine zvt (fun x=>x=pure none∨∃f,x=pure (some (ts.filterMap (yX f)))∧(ts.filterMap (yX f)).length=ts.length∧(ts.length=2∨ts.length=3)) (fun _=> .inl rfl) fun c1=>?_
 refine zvt (fun x=>x=pure none∨∃f,x=pure (some (ts.filterMap (yX f)))∧(ts.filterMap (yX f)).length=ts.length∧(ts.length=2∨ts.length=3)) (fun _=> .inl rfl) fun _=>?_
 refine zvt (fun x=>x=pure none∨∃f,x=pure (some (ts.filterMap (yX f)))∧(ts.filterMap (yX f)).length=ts.length∧(ts.length=2∨ts.length=3)) (fun _=> .inl rfl) fun c3=>?_
 refine zvt (fun x=>x=pure none∨∃f,x=pure (some (ts.filterMap (yX f)))∧(ts.filterMap (yX f)).length=ts.length∧(ts.length=2∨ts.length=3)) (fun _=> .inl rfl) fun c4=>?_
 refine zvt (fun x=>x=pure none∨∃f,x=pure (some (ts.filterMap (yX f)))∧(ts.filterMap (yX f)).length=ts.length∧(ts.length=2∨ts.length=3)) (fun c5=>?_) fun _=>?_
 ·rw[c5] at h
  simp at h
  exact absurd (by simpa using h) c4
 ·refine .inr ⟨fun id pos=>env.kindOf id==some .local&&pos.line==(ts.head?.map (·.pos.line)).getD 0,rfl,?_,?_⟩
  ·have:=c3
   simp only[Ca,not_or,bne_iff_ne,ne_eq,Decidable.not_not] at this
   exact this.1
  ·simp only[Ca,not_or,bne_iff_ne,ne_eq,Decidable.not_not,Bool.not_eq_true',Bool.or_eq_false_iff,not_and,beq_eq_false_iff_ne] at c1
   by_cases q:ts.length=2
   ·exact .inl q
   ·exact .inr (c1.1.1 q)
theorem zie (σ:St) {i j:Nat} (a b:V) (h:i≠j):(σ.set i a).set j b=(σ.set j b).set i a:=by
 exact congrArg (fun l=>(⟨l,σ.mem⟩:St)) (List.set_comm _ _ h)
theorem zoi {α:Type}{l:List α} (h:l.length=2): ∃a b,l=[a,b]:=by
 cases l with
 | nil=>cases h
 | cons a l=>cases l with
  | nil=>cases h
  | cons b l=>cases l with
   | nil=>exact⟨a,b,rfl⟩
   | cons c l=>exact absurd (Nat.succ.inj (Nat.succ.inj h)) (Nat.succ_ne_zero _)
theorem zm2 {α:Type}{l:List α} (h:l.length=3): ∃a b c,l=[a,b,c]:=by
 cases l with
 | nil=>cases h
 | cons a l=>obtain⟨b,c,rfl⟩:=zoi (Nat.succ.inj h);exact⟨a,b,c,rfl⟩
theorem zr6 {σ:St}{is:List Nat}{vs:List V} (h:zf5 is=true) (hl:is.length=vs.length) (hn:is.length=2∨is.length=3):σ.setAll is.reverse vs.reverse=σ.setAll is vs:=by
 rcases hn with hn | hn
 ·obtain⟨i,j,rfl⟩:=zoi hn
  obtain⟨a,b,rfl⟩:=zoi hl.symm
  simp[zf5] at h
  show(σ.set j b).set i a=(σ.set i a).set j b
  rw[zie];lia
 ·obtain⟨i,j,k,rfl⟩:=zm2 hn
  obtain⟨a,b,c,rfl⟩:=zm2 hl.symm
  simp[zf5] at h
  show((σ.set k c).set j b).set i a=((σ.set i a).set j b).set k c
  rw[zie σ c b (by lia),zie _ c a (by lia),zie σ b a (by lia)]
end
section
variable {G:GS}{A:Around}{Γ:FE}{frz:Frz}{σ:St}{s:Shared}
variable {P:PC}{C:SC}
theorem z4q {o i:Ex}{e:Expr} (X:Cx G A P Γ C) (h:zkf C (.idx o i) e=true) {v:V}{cv:Value}{Q:St→Prop} (w:zi6 P (.idx o i) v Q σ) (r:Rep G Γ frz σ s) (hv:RV s.heap cv v):
  wpAny (model G.prog G.w) A (assign e Γ.env cv) (PU G Γ frz s Q) NoE s:=
 zhc (e:=e) (K:=fun v s=>zy C o v&&zy C i s) (M:=fun e=>wpAny (model G.prog G.w) A (assign e Γ.env cv) (PU G Γ frz s Q) NoE s) h fun eo ei p h=>by
  refine ze2 (arm_assign_Subscript _ _ _ _ _) (Ac (Bt (((yO o).e Γ C X eo (zb h).1 _ _ w).then r fun co ov σ₁ s₁ a1 r1 t1 w1=>?_)))
  refine Ac (Bt (((yO i).e Γ C X ei (zb h).2 _ _ w1).then r1 fun ci iv σ₂ s₂ a2 r2 t2 w2=>?_))
  refine bc fun z9=>?_
  obtain⟨a,k,vs,j,rfl,rfl,hk,hm,hj,w⟩:=w2
  refine z9 ?_
  exact a1.eO (Ac (wpAny_standAt (Ac (Bt (zq (zso X.ok r2 hm hk hj a2 (hv.tk (t1.trans t2))) fun _ s₃ h3=>zee ⟨_,h3.1,(t1.trans t2).trans h3.2,w⟩)))))
theorem E6 {α β γ δ ε ζ:Sort _}{p:α→β→γ→δ→ε→ζ→Prop}{R:Prop} (h: ∃a b c d e f,p a b c d e f) (k: ∀a b c d e f,p a b c d e f→R):R:=let ⟨a,b,c,d,e,f,q⟩:=h;k a b c d e f q
theorem z2z {a b:Addr}{ia ib:Option Int}{xs ys:List V}{cl ch:Value}{l hh:V}{Q:St→Prop}{post:Unit→Shared→Prop} (ok:Γ.ok) (ea:zhu l=some ia) (eb:zhu hh=some ib) (h:a≠b∧σ.mem a=some (.list xs)∧σ.mem b=some (.list ys)∧sma xs.length∧sma ys.length∧
  Q {σ with mem:=upd σ.mem a (.list (xs.take (zfj xs.length ia)++ys++xs.drop (max (zfj xs.length ia) (zh5 xs.length ib))))})
  (r:Rep G Γ frz σ s) (a2:RV s.heap cl l) (a3:RV s.heap ch hh) (k: ∀σ' s',Rep G Γ frz σ' s'→TK s.heap s'.heap→Q σ'→post () s'):
  wpAny (model G.prog G.w) A (setItem (.ref a) (.ref s.heap.objs.size) (.ref b)) post NoE {s with heap:=s.heap.push (zjm cl ch .none)}:=by
 have kk:=za8 s.heap (zjm cl ch .none)
 refine bc fun z9=>?_
 obtain⟨_,_,_,qa⟩:=zcc ea a2
 refine z9 ?_
 refine bc fun z9=>?_
 obtain⟨_,_,_,qb⟩:=zcc eb a3
 refine z9 ?_
 exact zq (zrn ok (r.grow (tk:=s.toks) kk) h.2.1 h.2.2.1 h.1 h.2.2.2.1 h.2.2.2.2.1 (Heap.IsSliceOf.new ..) qa qb) fun _ s₅ h5=>k _ _ h5.1 ((TK.of kk).trans h5.2) h.2.2.2.2.2
theorem z6z {o lo hi:Ex}{e:Expr} (X:Cx G A P Γ C) (h:zkf C (.slc o lo hi) e=true) {v:V}{cv:Value}{Q:St→Prop} (w:zi6 P (.slc o lo hi) v Q σ) (r:Rep G Γ frz σ s) (hv:RV s.heap cv v):
  wpAny (model G.prog G.w) A (assign e Γ.env cv) (PU G Γ frz s Q) NoE s:=
 zhc (e:=e) (K:=fun v s=>zi3 s fun l u k=>k.isNone&&(zy C o v&&(zn6 C lo l&&zn6 C hi u))) (M:=fun e=>wpAny (model G.prog G.w) A (assign e Γ.env cv) (PU G Γ frz s Q) NoE s) h fun eo es p h=>
 zmk (e:=es) (K:=fun l u k=>k.isNone&&(zy C o eo&&(zn6 C lo l&&zn6 C hi u))) (M:=fun es=>wpAny (model G.prog G.w) A (assign (.Subscript eo es p) Γ.env cv) (PU G Γ frz s Q) NoE s) h fun l u k p' h=>by
  obtain⟨h0,h⟩:=zb h
  obtain⟨h1,h⟩:=zb h
  obtain⟨h2,h3⟩:=zb h
  cases k with
  | some=>cases h0
  | none=>
  refine ze2 (arm_assign_Subscript _ _ _ _ _) (Ac (Bt (((yO o).e Γ C X eo h1 _ _ w).then r fun co ov σ₁ s₁ a1 r1 t1 w1=>?_)))
  refine Ac (Bt (ze2 (arm_eval_Slice _ _ _ _ _) ?_))
  refine Ac ((zmo X (yO lo).e l h2 w1).then r1 fun cl l σ₂ s₂ a2 r2 t2 w2=>Ac (Bt ((zmo X (yO hi).e u h3 w2).then r2 fun ch hh σ₃ s₃ a3 r3 t3 w3=>?_)))
  refine E6 w3 fun a b ia ib xs ys q=>?_
  refine(q.1▸a1).eO ((q.2.1▸hv).eO (Ac (Bt (Aj (wpAny_newObj_type ?_)))))
  exact Ac (wpAny_standAt (Ac (Bt (z2z X.ok q.2.2.1 q.2.2.2.1 q.2.2.2.2 r3 (a2.tk t3) a3 fun σ' s' r5 t5 w=>zee ⟨σ',r5,((t1.trans t2).trans t3).trans t5,w⟩))))
theorem z09 {o:Ex}{n:String}{e:Expr} (X:Cx G A P Γ C) (h:zkf C (.attr o n) e=true) {v:V}{cv:Value}{Q:St→Prop} (w:zi6 P (.attr o n) v Q σ) (r:Rep G Γ frz σ s) (hv:RV s.heap cv v):
  wpAny (model G.prog G.w) A (assign e Γ.env cv) (PU G Γ frz s Q) NoE s:=
 zil (e:=e) (K:=fun v y _=>Str.ofString n==y&&zy C o v) (M:=fun e=>wpAny (model G.prog G.w) A (assign e Γ.env cv) (PU G Γ frz s Q) NoE s) h fun eo y p h=>by
  have h2:=(zb h).2
  cases Bh.mp (zb h).1
  refine ze2 (arm_assign_Attribute _ _ _ _ _) (Ac (Bt (((yO o).e Γ C X eo h2 _ _ w).then r fun co ov σ₁ s₁ a1 r1 t1 w1=>?_)))
  refine bc fun z9=>?_
  obtain⟨a,d,fs,rfl,e1,e2,e3,e4,w⟩:=w1
  refine z9 ?_
  exact a1.eO (Ac (wpAny_standAt (Ac (Bt (zq (zu7 X.g X.p.ok X.ok r1 e1 e2 e4 e3 (hv.tk t1)) fun _ s₃ h3=>zee ⟨_,h3.1,t1.trans h3.2,w⟩)))))
theorem zlz (X:Cx G A P Γ C) (t:Tg) (e:Expr) (h:zkf C t e=true) {v:V}{cv:Value}{Q:St→Prop} (w:zi6 P t v Q σ)
  (r:Rep G Γ frz σ s) (hv:RV s.heap cv v):wpAny (model G.prog G.w) A (assign e Γ.env cv) (PU G Γ frz s Q) NoE s:=
 match t,h,w with
 | .var _,h,w=>zt5 X.ok X.c h w r hv
 | .tup _,h,w=>zz5 X.a X.ok X.c h w r hv
 | .idx _ _,h,w=>z4q X h w r hv
 | .slc _ _ _,h,w=>z6z X h w r hv
 | .attr _ _,h,w=>z09 X h w r hv
theorem zgx {e:Expr}{es:List Expr}{env:Env} (h:za3 e=true):assignEach (e::es) env=(false,assign e env)::assignEach es env:=by
 cases e<;>first | rfl | exact absurd h Au
theorem zjt (X:Cx G A P Γ C): ∀(ts:List Tg) (es:List Expr),zch C ts es=true→∀{v:V}{cv:Value}{Q:St→Prop}{σ:St}{s:Shared},zhz P ts v Q σ→
  Rep G Γ frz σ s→RV s.heap cv v→wpAny (model G.prog G.w) A (assignAll cv ((assignEach es Γ.env).map (·.2))) (PU G Γ frz s Q) NoE s
 | [],es,h,v,cv,Q,σ,s,w,r,hv=>by rw[zg7 h];exact Aj ⟨σ,r,.refl _,w⟩
 | [t],es,h,v,cv,Q,σ,s,w,r,hv=>by
  obtain⟨e,es,rfl,hp,h1,h2⟩:=zby h
  cases zg7 h2
  rw[zgx hp]
  exact zlz X t e h1 w r hv
 | t::t'::ts,es,h,v,cv,Q,σ,s,w,r,hv=>by
  obtain⟨e,es,rfl,hp,h1,h2⟩:=zby h
  have ih:=fun {s₁:Shared} {σ₁:St} (w1:zhz P (t'::ts) v Q σ₁) (r1:Rep G Γ frz σ₁ s₁) (hv1:RV s₁.heap cv v)=>zjt X (t'::ts) es h2 w1 r1 hv1
  obtain⟨e',es',rfl,hp',_,_⟩:=zby h2
  rw[zgx hp,zgx hp'] at *
  exact Ac (Bt (zq (zlz X t e h1 w r hv) fun _ s₁ ⟨σ₁,r1,t1,w1⟩=>zq (ih w1 r1 (hv.tk t1)) fun _ s₂ p=>p.after t1))
theorem etu (t1 t2 t3:Expr) (t4:List Expr) (gs:List Comprehension) (t5:Scope) (p:Pos) (env:Env) (u:Value→Sem Unit):
  evalThenUse (.ListComp t1 (⟨t2,t3,t4,0⟩::gs) t5 p) env u=(comprehension (.ListComp t1 (⟨t2,t3,t4,0⟩::gs) t5 p) t5 env (firstIterPos (⟨t2,t3,t4,0⟩::gs) p) (newList []) false (eval t3 env) (some u) >>=fun _=>pure ()):=rfl
theorem zmr {WW:List V→(Mem→Prop)→(List V→St→Prop)→St→Prop}{gs:List Comprehension}{elt target iter:Expr}{ifs:List Expr}{sc:Scope}{p:Pos}{n:Nat}{caps:List Nat}{it:Ex} (X:Cx G A P Γ C) {ts:List Tg}{xs:List Expr}
  (h3:zch C ts xs=true) (hc:zkq C sc n caps=true) (hpl:za3 iter=true) (hi:zy C it iter=true) (cr: ∀L,zl8 G A (zc4 Γ sc L) (.ListComp elt (⟨target,iter,ifs,0⟩::gs) sc p) WW) {Q:Fl→St→Prop}
  (w:wpE P it (fun v σ₁=>za5 σ₁.mem v fun vs g=>sma vs.length∧WW vs g (fun us σ'=> ∀a,σ'.mem a=none→zhz P ts (.obj a) (fun σ₂=>Q .next σ₂) {σ₁ with mem:=upd σ'.mem a (.list us)}) (zfw σ₁ n caps)) σ):
  WF G A Γ (do evalThenUse (.ListComp elt (⟨target,iter,ifs,0⟩::gs) sc p) Γ.env fun v=>assignAll v ((assignEach xs Γ.env).map (·.2));pure Flow.next) Q σ:=fun frz s r=>by
 rw[etu]
 refine Ac ?_
 have core:=zms (pos:=p) (ipos:=firstIterPos (⟨target,iter,ifs,0⟩::gs) p) (use:=some fun v=>assignAll v ((assignEach xs Γ.env).map (·.2))) (QQ:=fun _ s'=>wpAny (model G.prog G.w) A (pure ()) (fun _ s''=>wpAny (model G.prog G.w) A (pure Flow.next) (PF G Γ frz s Q) NoE s'') NoE s')
  (R:=fun σ₁ us m=> ∀a,m a=none→zhz P ts (.obj a) (fun σ₂=>Q .next σ₂) {σ₁ with mem:=upd m a (.list us)}) X.a X.ok X.c (zfv hc) hpl cr r ((yO it).e Γ C X iter hi _ _ w)
 refine Ac (core fun σ₁ s' us m' D L mL hR hm r' t' d' ns=>?_)
 refine bc fun z9=>?_
 obtain⟨oL,es,ep,e,dL,hk,hf⟩:=id ns
 refine z9 ?_
 have ni: ¬Imm oL:=zeu ns e
 show wpAny _ A (assignAll (.ref D) ((assignEach xs Γ.env).map (·.2))) _ NoE s'
 refine zq (zjt X ts xs h3 (hR D hm) (r'.asideIn d' e) (.obj D)) fun _ s₂ ⟨σ₂,r2,tt2,w2⟩=>?_
 refine bc fun z9=>?_
 obtain⟨r3,d3,e3⟩:=Rep.asideOut r' d' r2
 refine z9 ?_
 refine⟨mL,⟨oL,es,ep,e3,dL,hk,hf⟩,fun h' hs'=>?_⟩
 obtain⟨r4,t4⟩:=r3.aside (tk:=s₂.toks) d3 e3 ni hs'.extBut
 exact Aj (Aj ⟨.next,σ₂,.next,r4,(t'.trans tt2).trans t4,w2⟩)
theorem zte {xs:List Expr}{e t:Expr}{i:Expr}{ifs:List Expr}{gs:List Comprehension}{sc:Scope}{p:Pos}{l:Nat}{env:Env}: ∃b,swapsWithSole xs (.ListComp e (⟨t,i,ifs,0⟩::gs) sc p) l env=pure b:=by
 match xs with
 | []=>exact⟨false,rfl⟩
 | _::_::_=>exact⟨false,rfl⟩
 | [tg]=>cases tg<;>exact⟨_,rfl⟩
theorem znv {M:Ex→Prop}{e:Ex} (h:zd9 e=true) (k1: ∀a b c d f g n,M (.comp a b c d f g n)):M e:=by
 cases e<;>first | exact k1 .. | exact absurd h Au
theorem z1u {e:Ex}{xs:List Expr}{y:Expr}{l:Nat}{env:Env} (h1:(zd9 e||notComp y)=true) (h4:zy C e y=true): ∃b,swapsWithSole xs y l env=pure b∧(b=true→zd9 e=true):=by
 cases q:zd9 e with
 | false=>
  rw[q,Bool.false_or] at h1
  exact⟨false,zrl h1 _ _ _,fun q=>nomatch q⟩
 | true=>
  have: ∃b,swapsWithSole xs y l env=pure b:=znv (M:=fun e=>zy C e y=true→∃b,swapsWithSole xs y l env=pure b) q
   (fun _ _ _ _ _ _ _ h=>by cases zij h with | mk _ _ _ _ _ _ h=>subst h;exact zte) h4
  exact this.elim fun b hb=>⟨b,hb,fun _=>rfl⟩
theorem zuf (X:Cx G A P Γ C) {ts:List Tg}{e:Ex}{xs:List Expr}{y:Expr} (h1:zd9 e=true) (h3:zch C ts xs=true) (h4:zy C e y=true) {Q:Fl→St→Prop} (w:wpS P (.assign ts e) Q σ):
  WF G A Γ (do evalThenUse y Γ.env fun v=>assignAll v ((assignEach xs Γ.env).map (·.2));pure Flow.next) Q σ:=
 znv (M:=fun e=>zy C e y=true→wpS P (.assign ts e) Q σ→WF G A Γ (do evalThenUse y Γ.env fun v=>assignAll v ((assignEach xs Γ.env).map (·.2));pure Flow.next) Q σ) h1
  (fun _ _ _ _ _ _ _ h4 w=>by
   cases zij h4 with | mk _ _ _ _ _ _ h g1 g2 g3 g4 g5 g6=>
   subst h
   exact zmr X h3 g3 g1 g2 (zm5 X (yO _).e (zjc _) (zfv g3) g4 g5 g6) w) h4 w
theorem zrw {x x' y:Expr}{xs:List Expr}{env:Env}:swappedStores (x::x'::xs) y env=pure none:=by cases x<;>rfl
theorem zqh {x y:Expr}{env:Env} (h:x.ctorIdx≠24∧(x.ctorIdx≠25∨y.ctorIdx≠25)):swappedStores [x] y env=pure none:=by
 cases x<;>first | rfl | exact absurd rfl h.1 | skip
 cases y<;>first | rfl | exact absurd rfl (h.2.resolve_left fun q=>q rfl)
theorem zs7 (X:Cx G A P Γ C) {ts:List Tg}{es:List Expr}{k:Nat}{p:Pos}{f:Str→Pos→Bool}{v:V}{cv:Value}{Q:Fl→St→Prop} (h3:zch C ts [.Tuple es k p]=true) (hlen:(es.filterMap (yX f)).length=es.length) (h23:es.length=2∨es.length=3)
  (w:zhz P ts v (fun σ₂=>Q .next σ₂) σ) (r:Rep G Γ frz σ s) (hv:RV s.heap cv v):
  wpAny (model G.prog G.w) A (assignStores Γ.env cv (some (es.filterMap (yX f))) ((assignEach [.Tuple es k p] Γ.env).map (·.2))) (PF G Γ frz s Q) NoE s:=by
 obtain⟨t,ts,rfl⟩: ∃t ts',ts=t::ts':=by
  cases ts with
  | nil=>cases zg7 h3
  | cons t ts=>exact⟨_,_,rfl⟩
 refine bc fun z9=>?_
 obtain⟨_,_,eq,_,ht,hts⟩:=zby h3
 refine z9 ?_
 cases eq
 cases ts with
 | cons t' ts=>obtain⟨_,_,eq,_⟩:=zby hts;cases eq
 | nil=>
 cases t<;>first | exact absurd ht Au | skip
 rename_i is
 obtain⟨ht1,ht2⟩:=zb (show(zf5 is&&zg4 C is es)=true from ht)
 refine bc fun z9=>?_
 obtain⟨vals,rfl,hl,w2⟩:=ztv w
 refine z9 ?_
 have bs:=zpx (A:=A) X.ok X.c f ht2 hlen
 have hbl:=bs.length
 rw[Ar] at hbl
 have bs':=bs.reverse
 rw[←List.map_reverse] at bs'
 show wpAny _ _ (do rule "assign.swapped-stores";let items ←unpackItems cv (es.filterMap (yX f)).length none;assignInOrder ((es.filterMap (yX f)).reverse.map fun n=>bindName Γ.env n) items.reverse;pure Flow.next) _ _ s
 refine Ac (wpAny_rule (Ac (zqt X.a r hv (hl.trans hbl.symm) fun cvs s₂ rs r2 t2=>Ac ?_)))
 refine zp3 bs' r2 rs.reverse (by rw[Ak,Ak];exact hl.symm) fun s' r' t'=>Aj ⟨.next,_,.next,r',t2.trans t',?_⟩
 rw[zr6 ht1 hl.symm (by rw[←hbl,hlen];exact h23)]
 exact w2
theorem zxa (X:Cx G A P Γ C) {ts:List Tg}{xs:List Expr}{y:Expr}{v:V}{cv:Value}{Q:Fl→St→Prop} (h2:zqb xs y=true) (h3:zch C ts xs=true)
  (w:zhz P ts v (fun σ₂=>Q .next σ₂) σ) (r:Rep G Γ frz σ s) (hv:RV s.heap cv v):
  wpAny (model G.prog G.w) A (do assignStores Γ.env cv (←swappedStores xs y Γ.env) ((assignEach xs Γ.env).map (·.2))) (PF G Γ frz s Q) NoE s:=by
 have plain:wpAny (model G.prog G.w) A (assignStores Γ.env cv none ((assignEach xs Γ.env).map (·.2))) (PF G Γ frz s Q) NoE s:=
  Ac (zq (zjt X ts xs h3 w r hv) fun _ s₂ ⟨σ₂,r2,t2,w2⟩=>Aj ⟨.next,σ₂,.next,r2,t2,w2⟩)
 have go:swappedStores xs y Γ.env=pure none→wpAny (model G.prog G.w) A (do assignStores Γ.env cv (←swappedStores xs y Γ.env) ((assignEach xs Γ.env).map (·.2))) (PF G Γ frz s Q) NoE s:=fun e=>by
  rw[e];exact Ac (Aj plain)
 cases xs with
 | nil=>cases h2
 | cons x xs=>
 cases xs with
 | cons x' xs=>exact go zrw
 | nil=>
 obtain⟨h24,h2⟩:=zb h2
 by_cases hx:x.ctorIdx=25
 ·by_cases hy:y.ctorIdx=25
  ·rw[hx,hy] at h2
   refine zlv (e:=y) (K:=fun vs=>!vs.all (constantsAlone 8)||vs.all (foldedForSure 8)) (M:=fun y=>(swappedStores [x] y Γ.env=pure none→wpAny (model G.prog G.w) A (do assignStores Γ.env cv (←swappedStores [x] y Γ.env) ((assignEach [x] Γ.env).map (·.2))) (PF G Γ frz s Q) NoE s)→wpAny (model G.prog G.w) A (do assignStores Γ.env cv (←swappedStores [x] y Γ.env) ((assignEach [x] Γ.env).map (·.2))) (PF G Γ frz s Q) NoE s) h2 ?_ go
   intro vs k' p' h2 go
   revert h3 go
   refine Expr.Tuple.elim (motive_1:=fun x=>zch C ts [x]=true→(swappedStores [x] (.Tuple vs k' p') Γ.env=pure none→wpAny (model G.prog G.w) A (do assignStores Γ.env cv (←swappedStores [x] (.Tuple vs k' p') Γ.env) ((assignEach [x] Γ.env).map (·.2))) (PF G Γ frz s Q) NoE s)→wpAny (model G.prog G.w) A (do assignStores Γ.env cv (←swappedStores [x] (.Tuple vs k' p') Γ.env) ((assignEach [x] Γ.env).map (·.2))) (PF G Γ frz s Q) NoE s) x hx ?_
   intro es k p h3 go
   rcases zr4 (ts:=es) (vs:=vs) (k:=k) (k':=k') (p:=p) (p':=p') (env:=Γ.env) h2 with q | ⟨f,q,hlen,h23⟩
   ·exact go q
   ·rw[q];exact Ac (Aj (zs7 X h3 hlen h23 w r hv))
  ·exact go (zqh ⟨bne_iff_ne.mp h24,.inr hy⟩)
 ·exact go (zqh ⟨bne_iff_ne.mp h24,.inl hx⟩)
theorem zw1 (X:Cx G A P Γ C) {ts:List Tg}{e:Ex}{xs:List Expr}{y:Expr}{pos:Pos} (h1:(zd9 e||notComp y)=true) (h2:zqb xs y=true) (h3:zch C ts xs=true) (h4:zy C e y=true)
  {Q:Fl→St→Prop} (w:wpS P (.assign ts e) Q σ):WF G A Γ (exec (.Assign xs y pos) Γ.env) Q σ:=fun frz s r=>by
 obtain⟨b,hbe,hbt⟩:=z1u (xs:=xs) (l:=pos.line) (env:=Γ.env) h1 h4
 refine ze2 (PyProof.Rows.exec_Assign _ _ _) (Ac (wpAny_standAt ?_))
 rw[hbe]
 refine Ac (Aj ?_)
 cases b with
 | true=>
  exact zuf X (hbt rfl) h3 h4 w frz s r
 | false=>
  exact Ac (((yO e).e Γ C X y h4 _ _ w).then r fun cv v σ₁ s₁ a1 r1 t1 w1=>zq (zxa X h2 h3 w1 r1 a1) fun _ _ h=>h.after t1)
end
section
variable {G:GS}{A:Around}{Γ:FE}{frz:Frz}{σ:St}{s:Shared}
theorem WF.then {t:Sem Flow}{Q:Fl→St→Prop}{post:Flow→Shared→Prop}{E:Value→Shared→Prop} (h:WF G A Γ t Q σ) (r:Rep G Γ frz σ s)
  (k: ∀cv v σ₁ s₁,RF s₁.heap cv v→Rep G Γ frz σ₁ s₁→TK s.heap s₁.heap→Q v σ₁→post cv s₁):wpAny (model G.prog G.w) A t post E s:=
 Bu (h frz s r) (fun cv s₁ ⟨v,σ₁,a,b,c,d⟩=>k cv v σ₁ s₁ a b c d) fun _ _ x=>x.elim
theorem z75 {op:Operator}{v u:V}{cv cu:Value}{Q:V→Prop} (h:zrr σ.mem op v u Q) (r:Rep G Γ frz σ s) (hv:RV s.heap cv v) (hu:RV s.heap cu u) {post:Value→Shared→Prop}
  (k: ∀cr r s',RV s'.heap cr r→Rep G Γ frz σ s'→TK s.heap s'.heap→Q r→post cr s'):wpAny (model G.prog G.w) A (inplaceOp op cv cu) post NoE s:=by
 cases op<;>first | exact False.elim h | skip
 ·cases v<;>first | exact False.elim h | skip
  ·obtain⟨b,rfl,h⟩:=zb3 h
   exact hv.eI fun _=>hu.eI fun _=>PyProof.Rows.iadd_int (k _ _ _ (.int _ _) (r.toks _) (.refl _) h)
  ·obtain⟨b,rfl,h1,h2,h3⟩:=zay h
   exact hv.eS fun _=>hu.eS fun _=>PyProof.Rows.iadd_str (fun t' tk=>by rw[zep];exact k _ _ _ (.str _ _) (r.toks _) (.refl _) h3) (by rw[mkl,mkl,sizeLine_eq];exact ntr (Nat.add_le_add h1 h2) (by decide))
 ·exact zhy (M:=fun cv cu=>wpAny (model G.prog G.w) A (inplaceOp .Sub cv cu) post NoE s) h hv hu fun _ _ _ _ h=>PyProof.Rows.isub_int (k _ _ _ (.int _ _) (r.toks _) (.refl _) h)
theorem z4r {i:Nat}{x:Str}{k:VK}{v:V}{post:Value→Shared→Prop} (ok:Γ.ok) (r:Rep G Γ frz σ s) (hx:Γ.vars[i]? =some (x,k)) (hv:σ.loc[i]? =some (some v)) (q: ∀cv,RV s.heap cv v→post cv s):
  wpAny (model G.prog G.w) A (loadName Γ.env x) post NoE s:=by
 cases k with
 | loc=>
  obtain⟨m,n,f⟩:=r.hns
  obtain⟨cv,e,rv⟩:=f i x v hx hv
  exact wpAny_loadName_local ok.fn (ok.loc i x hx) n e (q _ rv)
 | own c=>
  obtain⟨_,_,o,ov,g,d,f⟩:=r.hown i x c hx
  obtain⟨cv,e,rv⟩:=f v hv
  subst e
  obtain⟨a1,a2,_⟩:=ok.own i x c hx
  exact wpAny_loadName_cell ok.fn a1 a2 ⟨_,g,d⟩ (q _ rv)
 | ref c=>
  obtain⟨o,ov,g,d,f⟩:=r.href i x c hx
  obtain⟨cv,e,rv⟩:=f v hv
  subst e
  have g':=r.hfrz _ _ g
  obtain⟨a1,a2⟩:=ok.ref i x c hx
  rcases a1 with a1 | a1
  ·exact wpAny_loadName_cell ok.fn a1 a2 ⟨_,g',d⟩ (q _ rv)
  ·exact wpAny_loadName_free ok.fn a1 a2 ⟨_,g',d⟩ (q _ rv) (ok.dbg i x _ hx).2
noncomputable def SS (G:GS) (A:Around) (P:PC) (x:Sm):Prop:= ∀(Γ:FE) (C:SC),Cx G A P Γ C→∀(e:Stmt),z7t C x e=true→∀(Q:Fl→St→Prop) (σ:St),wpS P x Q σ→WF G A Γ (exec e Γ.env) Q σ
noncomputable def SB (G:GS) (A:Around) (P:PC) (xs:List Sm):Prop:= ∀(Γ:FE) (C:SC),Cx G A P Γ C→∀(es:List Stmt),zda C xs es=true→∀(Q:Fl→St→Prop) (σ:St),zk P xs Q σ→WF G A Γ (execs es Γ.env) Q σ
variable {P:PC}
theorem zv4 {y:Ex}:SS G A P (.expr y):=fun Γ C X e h Q σ w=>zt9 (x:=e) (K:=fun e=>notComp e&&zy C y e) (M:=fun e=>WF G A Γ (exec e Γ.env) Q σ) h fun e p h frz s r=>
 wpAny_Expr_any (((yO y).e Γ C X e (zb h).2 _ _ w).then r fun cv v σ₁ s₁ a1 r1 t1 w1=>⟨.next,σ₁,.next,r1,t1,w1⟩) (by unfold interactive;rw[X.ok.fn];rfl) (zkk (zb h).1 _ _ _)
theorem zmq {ts:List Tg}{y:Ex}:SS G A P (.assign ts y):=fun Γ C X e h Q σ w=>zsb (x:=e) (K:=fun xs e=>(zd9 y||notComp e)&&(zqb xs e&&(zch C ts xs&&zy C y e))) (M:=fun e=>WF G A Γ (exec e Γ.env) Q σ) h fun xs e p h=>
 zw1 X (zb h).1 (zb (zb h).2).1 (zb (zb (zb h).2).2).1 (zb (zb (zb h).2).2).2 w
theorem zzr {i:Nat}{op:Operator}{y:Ex}:SS G A P (.aug i op y):=fun Γ C X e h Q σ w=>z3q (x:=e) (K:=fun t o e=>zcw t fun n=>C.isW i n&&(op==o&&zy C y e)) (M:=fun e=>WF G A Γ (exec e Γ.env) Q σ) h fun t o e p h=>
 zeq (e:=t) (K:=fun n=>C.isW i n&&(op==o&&zy C y e)) (M:=fun t=>WF G A Γ (exec (.AugAssign t o e p) Γ.env) Q σ) h fun n q h frz s r=>by
  obtain⟨h1,h⟩:=zb h
  obtain⟨h2,h3⟩:=zb h
  cases Bh.mp h2
  obtain⟨v,hv,w⟩:=zor w
  obtain⟨k,hx,hk⟩:=zt3 X.c h1
  refine wpAny_AugAssign_Name (z4r X.ok r hx hv fun cv rv=>((yO y).e Γ C X e h3 _ _ w).then r fun cu u σ₁ s₁ a1 r1 t1 w1=>z75 w1 r1 (rv.tk t1) a1 fun cr q s' rq r2 t2 w2=>?_)
  exact zq (zpl X.ok r2 hx hk rq) fun _ s₃ h3=>⟨.next,_,.next,h3.1,(t1.trans t2).trans h3.2,w2⟩
theorem z1e {a:Addr}{k:Int}{t:Tok}{vs:List V}{j:Nat}{post:Unit→Shared→Prop} (ok:Γ.ok) (r:Rep G Γ frz σ s) (hk:zr k) (hm:σ.mem a=some (.list vs)) (hj:zn4 vs.length k=some j) (hz:sma vs.length)
  (q: ∀s',Rep G Γ frz {σ with mem:=upd σ.mem a (.list (vs.eraseIdx j))} s'→TK s.heap s'.heap→post () s'):wpAny (model G.prog G.w) A (delItem (.ref a) (.int k t)) post NoE s:=by
 refine bc fun z9=>?_
 obtain⟨arr,n,g,rs,hzz⟩:=(r.hmem _ _ hm).l
 refine z9 ?_
 refine PySem.P.delItem_list (n:=n) g (zin hk) (by rw[hzz];exact hj) ?_ (by rw[hzz];exact za4 hz)
 obtain⟨q1,q2⟩:=r.change ok (tk:=s.toks) (o:= .list (vs.eraseIdx j)) hm (h':=s.heap.update _ (Obj.mapSeq fun xs=>xs.eraseIdxIfInBounds j)) (fun b o hb e=>(Heap.get?_update_other _ _ (Ne.symm hb)).trans e)
  (fun k=> .list (Heap.get?_update_self _ g rfl) (by
   show RVs _ (arr.eraseIdxIfInBounds j).toList _
   rw[Array.toList_eraseIdxIfInBounds,List.eraseIdx_eq_take_drop_succ,List.eraseIdx_eq_take_drop_succ]
   exact((rs.tk k).take _).append ((rs.tk k).drop _)))
 exact q _ q1 q2
theorem z0b {o i:Ex}:SS G A P (.del o i):=fun Γ C X e h Q σ w=>z2x (x:=e) (K:=fun xs=>z83 xs fun y=>zm0 y fun v s=>zy C o v&&zy C i s) (M:=fun e=>WF G A Γ (exec e Γ.env) Q σ) h fun xs p h=>by
 refine bc fun z9=>?_
 obtain⟨y,rfl,h⟩:=zx4 h
 refine z9 ?_
 refine zhc (e:=y) (K:=fun v s=>zy C o v&&zy C i s) (M:=fun y=>WF G A Γ (exec (.Delete [y] p) Γ.env) Q σ) h fun eo ei p' h frz s r=>?_
 refine wpAny_Delete (wpAny_deleteEach_cons (wpAny_delete_Subscript (((yO o).e Γ C X eo (zb h).1 _ _ w).then r fun co ov σ₁ s₁ a1 r1 t1 w1=>((yO i).e Γ C X ei (zb h).2 _ _ w1).then r1 fun ci iv σ₂ s₂ a2 r2 t2 w2=>?_)))
 refine bc fun z9=>?_
 obtain⟨a,k,vs,j,rfl,rfl,hk,hm,hj,hz,w⟩:=w2
 refine z9 ?_
 exact a1.eO (a2.eI fun _=>z1e X.ok r2 hk hm hj hz fun s' q1 q2=>wpAny_deleteEach_nil ⟨.next,_,.next,q1,(t1.trans t2).trans q2,w⟩)
theorem zzk {c:Ex}{a b:List Sm} (ia:SB G A P a) (ib:SB G A P b):SS G A P (.ife c a b):=fun Γ C X e h Q σ w=>z1t (x:=e) (K:=fun t y z=>zy C c t&&(zda C a y&&zda C b z)) (M:=fun e=>WF G A Γ (exec e Γ.env) Q σ) h fun t y z p h frz s r=>
 ze2 (arm_exec_If _ _ _ _ _) (Ac (wpAny_standAt (Ac (((yO c).t Γ C X t (zb h).1 _ _ w).then r fun t σ₁ s₁ r1 t1 w1=>by
  cases t with
  | true=>exact zq (ia Γ C X y (zb (zb h).2).1 _ _ w1 frz s₁ r1) fun f s₂ p=>p.after t1
  | false=>exact zq (ib Γ C X z (zb (zb h).2).2 _ _ w1 frz s₁ r1) fun f s₂ p=>p.after t1))))
theorem zza {c:Ex}{b:List Sm} (ib:SB G A P b):SS G A P (.whl c b):=fun Γ C X e h Q σ w=>zur (x:=e) (K:=fun t y z=>z.isEmpty&&(zy C c t&&zda C b y)) (M:=fun e=>WF G A Γ (exec e Γ.env) Q σ) h fun t y z p h frz s r=>by
 obtain⟨h0,h⟩:=zb h
 obtain⟨hc,hb⟩:=zb h
 cases List.isEmpty_iff.mp h0
 obtain⟨I,⟨n,hI⟩,turn⟩:=w
 refine wpAny_While (codeAny_whileLoop (fun n s'=> ∃σ',Rep G Γ frz σ' s'∧TK s.heap s'.heap∧I n σ') ?_ n ⟨σ,r,.refl _,hI⟩)
 intro n s₁ ⟨σ₁,r1,t1,i1⟩
 refine Bu ((yO c).t Γ C X t hc _ _ (turn n σ₁ i1) frz s₁ r1) (fun t s₂ p=>?_) fun _ _ x=>x.elim
 obtain⟨σ₂,r2,t2,w2⟩:=p
 cases t with
 | true=>
  rw[if_pos rfl] at w2 ⊢
  refine(ib Γ C X y hb _ _ w2).then r2 fun cf f σ₃ s₃ a3 r3 t3 w3=>?_
  have tt:=(t1.trans t2).trans t3
  cases a3 with
  | next=>obtain⟨m,hm,hi⟩:=w3;exact⟨m,hm,σ₃,r3,tt,hi⟩
  | cont=>obtain⟨m,hm,hi⟩:=w3;exact⟨m,hm,σ₃,r3,tt,hi⟩
  | brk=>exact⟨.next,σ₃,.next,r3,tt,w3⟩
  | ret q=>exact⟨.ret _,σ₃,.ret q,r3,tt,w3⟩
 | false=>
  rw[if_neg Au] at w2 ⊢
  rw[arm_execs_nil]
  exact Aj ⟨.next,σ₂,.next,r2,t1.trans t2,w2⟩
noncomputable def z9t (G:GS) (P:PC) (Γ:FE) (frz:Frz) (s:Shared) (ia:Addr) (t:Tg) (b:List Sm) (g:Mem→Prop) (Q:Fl→St→Prop) (n:Nat) (s':Shared):Prop:=
 ∃σ' vs' o,vs'.length=n∧Rep G Γ frz σ' s'∧TK s.heap s'.heap∧Aside G Γ frz σ' ia∧s'.heap.get? ia=some o∧IterAt s'.heap o g vs'∧zdz (zi6 P t) (zk P b) g Q vs' σ'
theorem zx3 {Γ:FE}{C:SC}{frz:Frz}{t:Tg}{b:List Sm}{tg:Expr}{y:List Stmt}{g:Mem→Prop}{Q:Fl→St→Prop}{s₀ s:Shared}{ia:Addr}{o:Obj}{vs:List V}{v:V}{cv:Value} (X:Cx G A P Γ C) (ib:SB G A P b) (htg:zkf C t tg=true) (hb:zda C b y=true)
  {E:Value→Shared→Prop} {R:Flow→Shared→Prop}
  (r:Rep G Γ frz σ s) (t0:TK s₀.heap s.heap) (d:Aside G Γ frz σ ia) (ho:s.heap.get? ia=some o) (i:IterAt s.heap o g vs) (hv:RV s.heap cv v)
  (w:zi6 P t v (fun σ=>zk P b (fun fl σ₁=>match fl with
   | .next=>zdz (zi6 P t) (zk P b) g Q vs σ₁
   | .cont=>zdz (zi6 P t) (zk P b) g Q vs σ₁
   | .brk=>Q .next σ₁
   | .ret r=>Q (.ret r) σ₁) σ) σ)
  (k: ∀f s',(f= .next∨f= .cont)→z9t G P Γ frz s₀ ia t b g Q vs.length s'→R f s') (kb: ∀s',PF G Γ frz s₀ Q .next s'→R .brk s') (kr: ∀v s',PF G Γ frz s₀ Q (.ret v) s'→R (.ret v) s'):
  wpAny (model G.prog G.w) A (assign tg Γ.env cv) (fun _ s'=>wpAny (model G.prog G.w) A (execs y Γ.env) R E s') NoE s:=by
 refine zq (zlz X t tg htg w (r.asideIn d ho) hv) fun _ s₅ p=>?_
 obtain⟨σ₅,r5,t5,w5⟩:=p
 refine(ib Γ C X y hb _ _ w5).then r5 fun cf f σ₆ s₆ a6 r6 t6 w6=>?_
 obtain⟨r6',d6,ho6⟩:=Rep.asideOut r d r6
 have tt:=(t0.trans t5).trans t6
 have i6:=i.tk (t5.trans t6)
 cases a6 with
 | next=>exact k _ _ (.inl rfl) ⟨σ₆,vs,o,rfl,r6',tt,d6,ho6,i6,w6⟩
 | cont=>exact k _ _ (.inr rfl) ⟨σ₆,vs,o,rfl,r6',tt,d6,ho6,i6,w6⟩
 | brk=>exact kb _ ⟨.next,σ₆,.next,r6',tt,w6⟩
 | ret q=>exact kr _ _ ⟨.ret _,σ₆,.ret q,r6',tt,w6⟩
theorem z4v {t:Tg}{it:Ex}{b:List Sm} (ib:SB G A P b):SS G A P (.fr t it b):=fun Γ C X e h Q σ w=>z0w (x:=e) (K:=fun tg e y z=>z.isEmpty&&(za3 e&&(zkf C t tg&&(zy C it e&&zda C b y)))) (M:=fun e=>WF G A Γ (exec e Γ.env) Q σ) h fun tg e y z p h frz s r=>by
 obtain⟨h0,h⟩:=zb h
 obtain⟨hpl,h⟩:=zb h
 obtain⟨htg,h⟩:=zb h
 obtain⟨hit,hb⟩:=zb h
 cases List.isEmpty_iff.mp h0
 refine wpAny_For (((yO it).e Γ C X e hit _ _ w).then r fun cv v σ₁ s₁ a1 r1 t1 w1=>?_) fun x=>zhn hpl x
 refine bc fun z9=>?_
 obtain⟨vs,g,w1,mk⟩:=zno (A:=A) r1 a1 w1
 refine z9 ?_
 refine zq mk fun itv s₂ p=>?_
 refine bc fun z9=>?_
 obtain⟨ia,o,rfl,r2,t2,d2,ho2,i2⟩:=p
 refine z9 ?_
 refine codeAny_forLoop_any (z9t G P Γ frz s ia t b g Q) ?_ _ ⟨σ₁,vs,o,rfl,r2,t1.trans t2,d2,ho2,i2,w1⟩
 intro n s₃ h3
 refine bc fun z9=>?_
 obtain⟨σ₃,vs',o',hl,r3,t3,d3,ho3,i3,w3⟩:=h3
 refine z9 ?_
 cases vs' with
 | nil=>
  refine Bu (ziq X.a r3 d3 ho3 i3 w3.1) (fun x s₄ p=>?_) fun _ _ x=>x.elim
  cases x with
  | some _=>exact False.elim p
  | none=>exact ze2 (arm_execs_nil _) (Aj ⟨.next,σ₃,.next,p.1,t3.trans p.2,w3.2⟩)
 | cons v' vs'=>
  refine Bu (ziq X.a r3 d3 ho3 i3 w3.1) (fun x s₄ p=>?_) fun _ _ x=>x.elim
  cases x with
  | none=>exact False.elim p
  | some cv'=>
   refine bc fun z9=>?_
   obtain⟨a4,r4,t4,o4,ho4,i4⟩:=p
   refine z9 ?_
   show wpAny _ _ (letOwnedTupleGo tg (Value.ref ia) cv') _ _ s₄
   refine zk6 ho4 i4 ?_
   refine Bu (zx3 X ib htg hb r4 (t3.trans t4) d3 ho4 i4 a4 w3.2 ?_ ?_ ?_) (fun _ _ x=>x) fun _ _ x=>x.elim
   ·intro f s' hf h
    rcases hf with rfl | rfl
    ·exact⟨_,by rw[←hl];exact Cb _,h⟩
    ·exact⟨_,by rw[←hl];exact Cb _,h⟩
   ·exact fun _ h=>h
   ·exact fun _ _ h=>h
theorem zzq {y:Ex}:SS G A P (.ret y):=fun Γ C X e h Q σ w=>z13 (x:=e) (K:=fun e=>zn6 C y e) (M:=fun e=>WF G A Γ (exec e Γ.env) Q σ) h fun e p h frz s r=>by
 cases e with
 | none=>
  obtain⟨v,σ',a,b,c,d⟩:=zi4 h w r
  exact wpAny_Return_none ⟨.ret v,σ',.ret a,b,c,d⟩
 | some e=>exact wpAny_Return_some (((yO y).e Γ C X e h _ _ w).then r fun cv v σ₁ s₁ a1 r1 t1 w1=>⟨.ret v,σ₁,.ret a1,r1,t1,w1⟩)
theorem zz4:SS G A P .brk:=fun Γ C X e h Q σ w=>z0q (x:=e) (K:=fun _=>true) (M:=fun e=>WF G A Γ (exec e Γ.env) Q σ) h fun p _ frz s r=>
 ze2 (arm_exec_Break _ _) (Ac (wpAny_standAt (Aj ⟨.brk,σ,.brk,r,.refl _,w⟩)))
theorem zz0:SB G A P []:=fun Γ C X es h Q σ w frz s r=>by
 cases zm8 h
 exact ze2 (arm_execs_nil _) (Aj ⟨.next,σ,.next,r,.refl _,w⟩)
theorem zvw {x:Sm}{xs:List Sm} (ix:SS G A P x) (is:SB G A P xs):SB G A P (x::xs):=fun Γ C X es h Q σ w frz s r=>by
 rcases zkw h with rfl | ⟨e,es,rfl,h1,h2⟩
 ·exact False.elim w
 refine ze2 (arm_execs_cons _ _ _) (Ac ((ix Γ C X e h1 _ _ w).then r fun cf f σ₁ s₁ a1 r1 t1 w1=>?_))
 cases a1 with
 | next=>exact zq (is Γ C X es h2 _ _ w1 frz s₁ r1) fun f s₂ p=>p.after t1
 | brk=>exact Aj ⟨_,σ₁,.brk,r1,t1,w1⟩
 | cont=>exact Aj ⟨_,σ₁,.cont,r1,t1,w1⟩
 | ret q=>exact Aj ⟨_,σ₁,.ret q,r1,t1,w1⟩
theorem zth:(xs:List Sm)→SB G A P xs:=Sm.rec_1 (motive_1:=SS G A P) (motive_2:=SB G A P)
 (fun _=>zv4) (fun _ _=>zmq) (fun _ _ _=>zzr) (fun _ _=>z0b) (fun _ _ _ ia ib=>zzk ia ib) (fun _ _ ib=>zza ib) (fun _ _ _ ib=>z4v ib) (fun _=>zzq) zz4
 (fun _ _ _ _ h=>absurd h Au) zz0 (fun _ _ ix is=>zvw ix is)
end
noncomputable def retV:Fl→V
 | .ret v=>v
 | _=> .none
theorem zj4 {k:Str→Option NameKind}: ∀{ps:List Str}{cs:List Value}{m:Str→Option Value}{x:Str},x∉ps→bindL k (ps.zip cs) m x=m x
 | [],_,_,_,_=>by dsimp [bindL]
 | _::_,[],_,_,_=>by rfl
 | p::ps,c::cs,m,x,h=>by
  simp only[List.zip_cons_cons];unfold bindL
  rw[zj4 (fun q=>h (Ao _ q))]
  split
  ·exact if_neg (fun q=>h (by subst q;simp))
  ·rfl
theorem zi5 {k:Str→Option NameKind}: ∀{ps:List Str}{cs:List Value}{m:Str→Option Value}{i:Nat}{x:Str}{c:Value},ps.Nodup→ps[i]? =some x→cs[i]? =some c→k x=some .local→bindL k (ps.zip cs) m x=some c
 | [],_,_,_,_,_,_,h,_,_=>by trivial
 | _::_,[],_,_,_,_,_,_,h,_=>by trivial
 | p::ps,d::cs,m,0,x,c,hn,h1,h2,hk=>by
  simp only[List.getElem?_cons_zero,Option.some.injEq] at h1 h2
  subst h1;subst h2
  rw[List.nodup_cons] at hn
  simp only[List.zip_cons_cons];unfold bindL
  rw[zj4 hn.1,if_pos hk,if_pos rfl]
 | p::ps,d::cs,m,i+1,x,c,hn,h1,h2,hk=>by
  rw[List.nodup_cons] at hn
  simp only[List.zip_cons_cons];unfold bindL
  exact zi5 hn.2 (by simpa using h1) (by simpa using h2) hk
theorem zi2 {k:Str→Option NameKind}: ∀{ps:List Str}{cs:List Value}{m:Str→Option Value}{x:Str},x∉ps→bindC k (ps.zip cs) m x=m x
 | [],_,_,_,_=>by dsimp [bindC]
 | _::_,[],_,_,_=>by rfl
 | p::ps,c::cs,m,x,h=>by
  simp only[List.zip_cons_cons];unfold bindC
  rw[zi2 (fun q=>h (Ao _ q))]
  split
  ·rfl
  ·exact if_neg (fun q=>h (by subst q;simp))
theorem zjh {k:Str→Option NameKind}: ∀{ps:List Str}{cs:List Value}{m:Str→Option Value}{i:Nat}{x:Str}{c:Value},ps.Nodup→ps[i]? =some x→cs[i]? =some c→¬k x=some .local→bindC k (ps.zip cs) m x=some c
 | [],_,_,_,_,_,_,h,_,_=>by trivial
 | _::_,[],_,_,_,_,_,_,h,_=>by trivial
 | p::ps,d::cs,m,0,x,c,hn,h1,h2,hk=>by
  simp only[List.getElem?_cons_zero,Option.some.injEq] at h1 h2
  subst h1;subst h2
  rw[List.nodup_cons] at hn
  simp only[List.zip_cons_cons];unfold bindC
  rw[zi2 hn.1,if_neg hk,if_pos rfl]
 | p::ps,d::cs,m,i+1,x,c,hn,h1,h2,hk=>by
  rw[List.nodup_cons] at hn
  simp only[List.zip_cons_cons];unfold bindC
  exact zjh hn.2 (by simpa using h1) (by simpa using h2) hk
theorem zo3 {α:Type}{M:Model}{A:Around}{E:Value→Shared→Prop}{s:Shared}{c:Prop} [Decidable c] {x y:Sem α}{Q:α→Shared→Prop} (h: ¬c) (k:wpAny M A y Q E s):wpAny M A (if c then x else y) Q E s:=by rw[if_neg h];exact k
noncomputable def zrp (p:Arguments) (ps:List Str):Bool:=
 p.posonlyargs.isEmpty&&(p.vararg.isNone&&(p.kwonlyargs.isEmpty&&(p.kwarg.isNone&&p.args.map Arg.arg==ps)))
noncomputable def z7b (h:Heap) (v:Value) (ds:List Value):Prop:=(v= .none∧ds=[])∨∃T o arr n,v= .ref T∧h.get? T=some o∧o.data= .seq arr n∧arr.toList=ds
theorem z65 {M:Model}{A:Around}{E:Value→Shared→Prop}{s:Shared}{v:Value}{ds:List Value}{Q:Option (Array Value)→Shared→Prop} (h:z7b s.heap v ds) (q: ∀d:Option (Array Value),(d.getD #[]).toList=ds→Q d s):wpAny M A (seqItems? v) Q E s:=by
 rcases h with ⟨rfl,rfl⟩ | ⟨T,o,arr,n,rfl,h1,h2,h3⟩
 ·exact Ac (wpAny_of_eq (a:=()) rfl (Aj (q none rfl)))
 ·exact wpAny_seqItems h1 h2 (q _ h3)
noncomputable def z3k (s l:List (Str×Value)):List (Str×Value):=l.foldl (fun s x=>if (s.lookup x.1).isNone=true then s++[(x.1,x.2)] else s) s
theorem zgq {x:Str}: ∀(s l:List (Str×Value)),(s++l).lookup x=(s.lookup x).or (l.lookup x)
 | [],_=>rfl
 | (y,v)::s,l=>by
  (dsimp only[List.cons_append,List.lookup_cons,List.lookup_cons];rw[zgq s l])
  cases x==y<;>rfl
theorem zmc {x:Str}: ∀(l s:List (Str×Value)),(z3k s l).lookup x=(s.lookup x).or (l.lookup x)
 | [],s=>(Option.or_none).symm
 | (y,v)::l,s=>by
  show(z3k (if (s.lookup y).isNone=true then s++[(y,v)] else s) l).lookup x=_
  rw[zmc l,List.lookup_cons]
  by_cases q:x=y
  ·subst q
   rw[beq_self_eq_true]
   by_cases e:(s.lookup x).isNone=true
   ·rw[if_pos e,zgq,List.lookup_cons,beq_self_eq_true,Option.isNone_iff_eq_none.mp e];rfl
   ·rw[if_neg e]
    cases z:List.lookup x s with
    | none=>rw[z] at e;exact absurd rfl e
    | some u=>rfl
  ·rw[beq_eq_false_iff_ne.mpr q]
   by_cases e:(s.lookup y).isNone=true
   ·rw[if_pos e,zgq,List.lookup_cons,beq_eq_false_iff_ne.mpr q];show((s.lookup x).or none).or _=_;rw[Option.or_none]
   ·rw[if_neg e]
theorem zs8 {M:Model}{A:Around}{E:Value→Shared→Prop}{s:Shared}{Q:List (Str×Value)→Shared→Prop}: ∀(l t:List (Str×Value)),Q (z3k t l) s→
  wpAny M A (forIn l t fun(x:Str×Value) (t:List (Str×Value))=>if (t.lookup x.1).isNone=true then pure (ForInStep.yield (t++[(x.1,x.2)])) else pure (ForInStep.yield t)) Q E s
 | [],t,q=>Aj q
 | x::l,t,q=>by
  rw[List.forIn_cons]
  refine Ac ?_
  split
  ·exact Aj (zs8 l _ (by unfold z3k at q;rw[List.foldl_cons,if_pos (by assumption)] at q;exact q))
  ·exact Aj (zs8 l _ (by unfold z3k at q;rw[List.foldl_cons,if_neg (by assumption)] at q;exact q))
theorem zzs {L:Str→Option Value}: ∀{ps:List Str}{cs:List Value},ps.length=cs.length→(∀(i:Nat) x v,ps[i]? =some x→cs[i]? =some v→L x=some v)→ps.filterMap (fun n=>(L n).map (n,·))=ps.zip cs
 | [],_,_,_=>rfl
 | _::_,[],h,_=>nomatch h
 | p::ps,c::cs,h,k=>by
  simp only[List.filterMap_cons,k 0 p c rfl rfl,List.zip_cons_cons,←zzs (Nat.succ.inj h) fun i x v a b=>k (i+1) x v a b];rfl
theorem zim: ∀{ps:List Str}{cs:List Value},ps.Nodup→∀{i:Nat}{x:Str},ps[i]? =some x→(ps.zip cs).lookup x=cs[i]?
 | [],_,_,_,_,h=>nomatch h
 | _::_,[],_,_,_,_=>rfl
 | p::ps,c::cs,hn,0,x,h=>by cases h;(dsimp only[List.zip_cons_cons,List.lookup_cons];rw[beq_self_eq_true]);rfl
 | p::ps,c::cs,hn,i+1,x,h=>by
  rw[List.nodup_cons] at hn
  have h:ps[i]? =some x:=h
  have ne:x≠p:=fun q=>hn.1 (by rw[←q];exact Bp h)
  (dsimp only[List.zip_cons_cons,List.lookup_cons];rw[beq_eq_false_iff_ne.mpr ne]);exact zim hn.2 h
theorem z18 {p:Arguments} (h1:p.posonlyargs=[]) (h2:p.vararg=none) (h3:p.kwonlyargs=[]) (h4:p.kwarg=none):p=⟨[],p.args,none,[],p.kw_defaults,none,p.defaults⟩:=by
 cases p;cases h1;cases h2;cases h3;cases h4;rfl
theorem zmg {p:Arguments}{ps:List Str} (h:zrp p ps=true):p=⟨[],p.args,none,[],p.kw_defaults,none,p.defaults⟩∧p.args.map Arg.arg=ps:=
 have h2:=(zb h).2
 have h3:=(zb h2).2
 have h4:=(zb h3).2
 ⟨z18 (List.isEmpty_iff.mp (zb h).1) (Option.isNone_iff_eq_none.mp (zb h2).1) (List.isEmpty_iff.mp (zb h3).1) (Option.isNone_iff_eq_none.mp (zb h4).1),Bh.mp (zb h4).2⟩
theorem ztz {ps:List Str}{cs ds:List Value}{c j:Nat} (hn:ps.Nodup) (hc:cs.length=j+c) (hp:ps.length=c+ds.length) (hj:j≤ds.length):
  ps.filterMap (fun n=>((z3k (ps.zip cs) ((ps.drop (ps.length-ds.length)).zip ds)).lookup n).map (n,·))=ps.zip (cs++ds.drop j):=by
 refine zzs (by simp only[Aa,Ap,hc,hp,Nat.add_comm j c,Nat.add_assoc,Nat.add_sub_cancel' hj]) fun i x v h1 h2=>?_
 rw[zmc,zim hn h1,hp,Nat.add_sub_cancel]
 by_cases q:i<cs.length
 ·rw[Bg q] at h2
  rw[h2];rfl
 ·have q:=Az q
  rw[Bf q,List.getElem?_drop,hc] at h2
  rw[List.getElem?_eq_none q]
  obtain⟨i,rfl⟩:=Nat.exists_eq_add_of_le (hc▸q)
  rw[Av] at h2
  have e:(ps.drop c)[j+i]? =some x:=by rw[List.getElem?_drop,←h1,←Nat.add_assoc,Nat.add_comm c j]
  show((ps.drop c).zip ds).lookup x=_
  rw[zim (hn.sublist (List.drop_sublist _ _)) e,h2]
theorem zsn {ps:List Str}{cs:List Value}{k:Nat} (hn:ps.Nodup) (hk:k≤cs.length):((ps.take k).filter fun n=>((ps.zip cs).lookup n).isNone).isEmpty=true:=by
 rw[List.isEmpty_iff,List.filter_eq_nil_iff]
 intro n hm
 obtain⟨i,hi⟩:=List.getElem?_of_mem hm
 rw[List.getElem?_take] at hi
 split at hi
 ·rename_i hik
  rw[zim hn hi,Ay (Ba hik hk)]
  exact Au
 ·exact(Am _ hi.symm).elim
theorem zts {s:Shared}{f:FuncData}{ar:List Arg}{kd:List (Option Expr)}{de:List Expr}{cs ds:List Value}{c j:Nat} (hf:f.params=⟨[],ar,none,[],kd,none,de⟩) (hd:z7b s.heap f.defaults ds) (hn:(ar.map Arg.arg).Nodup)
  (hc:cs.length=j+c) (hp:(ar.map Arg.arg).length=c+ds.length) (hj:j≤ds.length):BindsTo s f ⟨cs,[]⟩ ((ar.map Arg.arg).zip (cs++ds.drop j)):=by
 obtain⟨_,_,_,_,_,_,_,dv,_,_,_,_,_,_⟩:=f
 cases hf
 rw[←ztz hn hc hp hj]
 intro M A E Q q
 unfold bindArgs
 refine Ac (Aj (Ac (z65 hd fun d hds=>?_)))
 subst hds
 have e:(d.getD #[]).toList.drop ((d.getD #[]).toList.length-(ar.map Arg.arg).length)=(d.getD #[]).toList:=by rw[hp,Bz (Nat.le_add_left ..)];rfl
 have m:=zsn (cs:=cs) (k:=(ar.map Arg.arg).length-((d.getD #[]).toList.drop ((d.getD #[]).toList.length-(ar.map Arg.arg).length)).length) hn (by rw[e,hp,hc,Nat.add_sub_cancel];exact Nat.le_add_left ..)
 have q':Q ((ar.map Arg.arg++[]).filterMap (fun n=>((z3k ((ar.map Arg.arg).zip cs) (((ar.map Arg.arg).drop ((ar.map Arg.arg).length-((d.getD #[]).toList.drop ((d.getD #[]).toList.length-(ar.map Arg.arg).length)).length)).zip ((d.getD #[]).toList.drop ((d.getD #[]).toList.length-(ar.map Arg.arg).length)))).lookup n).map (n,·))) s:=by
  rw[e,Ag];exact q
 have hl:cs.length≤(ar.map Arg.arg).length:=by rw[hc,hp,Nat.add_comm];exact Nat.add_le_add_left hj c
 exact zo3 (fun h=>absurd (of_decide_eq_true (zb h).1) (Nat.not_lt.mpr hl)) (zo3 (fun h=>Bool.noConfusion (m.symm.trans ((Bool.not_eq_true' _).mp h))) (Ac (zs8 _ _ (Ac (Aj (zo3 Au (Aj q')))))))
theorem zff {s:Shared}{fd:FuncData}{ps:List Str}{cs ds:List Value}{c j:Nat} (hp:zrp fd.params ps=true) (hd:z7b s.heap fd.defaults ds) (hn:ps.Nodup) (hc:cs.length=j+c) (hpl:ps.length=c+ds.length) (hj:j≤ds.length):
  BindsTo s fd ⟨cs,[]⟩ (ps.zip (cs++ds.drop j)):=by
 obtain⟨e,rfl⟩:=zmg hp
 exact zts e hd hn hc hpl hj
noncomputable def z9i (o:Obj):Option FuncData:=match o.data with
 | .func fd=>some fd
 | _=>none
noncomputable def z5c (K:Frag) (f:Addr):Option FuncData:=(K.lookup f).bind z9i
theorem zq7 {K:Frag}{f:Addr}{fd:FuncData} (h:z5c K f=some fd): ∃o,K.lookup f=some o∧o.data= .func fd:=by
 obtain⟨o,e1,e2⟩:=Option.bind_eq_some_iff.mp h
 refine⟨o,e1,?_⟩
 unfold z9i at e2
 generalize o.data=d at e2
 cases d<;>cases e2
 rfl
noncomputable def zec (fd:FuncData):List Stmt:=match fd.body with
 | .stmts b=>b
 | _=>[]
noncomputable def zpd (fd:FuncData):Bool:=match fd.body with
 | .stmts _=>true
 | _=>false
theorem zfd {α β:Type} [BEq α] [LawfulBEq α] {x:α}{k:β}: ∀{l:List (α×β)},l.lookup x=some k→(x,k)∈l
 | [],h=>by cases h
 | (y,d)::l,h=>by
  rw[List.lookup_cons] at h
  split at h
  ·rename_i e;rw[Bh] at e;subst e;cases h;simp
  ·exact Ao _ (zfd h)
theorem zgt {x:Str}: ∀(names:List (Str×NameKind)) (n:Nat) (acc:List (Str×Addr)),(acc.lookup x).isSome=true→((cellsFrom n names acc).lookup x).isSome=true
 | [],_,_,h=>h
 | (y,k)::r,n,acc,h=>by
  unfold cellsFrom
  split
  ·refine zgt r _ _ ?_
   simp only[List.lookup_cons]
   split
   ·rfl
   ·exact h
  ·exact zgt r _ _ h
theorem zcz {x:Str}: ∀(names:List (Str×NameKind)) (n:Nat) (acc:List (Str×Addr)),names.lookup x=some .cell→((cellsFrom n names acc).lookup x).isSome=true
 | [],_,_,h=>by exact(Am _ h.symm).elim
 | (y,k)::r,n,acc,h=>by
  simp only[List.lookup_cons] at h
  unfold cellsFrom
  split at h
  ·rename_i e
   cases h
   rw[if_pos (by decide)]
   refine zgt r _ _ ?_
   rw[List.lookup_cons,e];rfl
  ·split<;>exact zcz r _ _ h
noncomputable def zjw (fd:FuncData) (L:Addr) (xs:List Str):List (Str×VK):=
 xs.map fun x=>(x,if fd.scope.names.lookup x=some .cell then .own (((cellsFrom (L+1) fd.scope.names []).lookup x).getD 0) else .loc)
noncomputable def z7f (fd:FuncData) (L f:Addr) (xs:List Str):FE:=⟨callEnvC fd L f,zjw fd L xs⟩
noncomputable def zwh (fd:FuncData) (xs:List Str):Bool:=
 zki xs&&xs.all fun x=>(fd.scope.names.lookup x==some .local||fd.scope.names.lookup x==some .cell)&&!(x==("__debug__":Str))&&!(x==("__classdict__":Str))
noncomputable def zoq (fd:FuncData) (C:SC):Bool:=(C.names.all fun p=>fd.scope.names.lookup p.1==some p.2)&&C.cells.all fun x=>fd.scope.names.lookup x==some .cell
noncomputable def ze3 (ps rest:List Str) (names:List (Str×NameKind)) (fns meths:List String) (cells:List Str):SC:=⟨(ps++rest).map (·,false),names,fns,meths,cells⟩
noncomputable def zzj (v:V) (c:Value):Bool:=match v with
 | .none=>c== .none
 | .bool b=>c== .bool b
 | _=>false
theorem ztg {v:V}{c:Value} (h:zzj v c=true) (hh:Heap):RV hh c v:=by
 cases v<;>first | exact absurd h Au | (cases Bh.mp h;constructor)
noncomputable def zph:List V→List Value→Bool
 | [],cs=>cs.isEmpty
 | v::vs,cs=>cs.head?.any fun c=>zzj v c&&zph vs cs.tail
theorem zkg {h:Heap}: ∀{vs:List V}{cs:List Value},zph vs cs=true→RVs h cs vs
 | [],cs,q=>by cases List.isEmpty_iff.mp q;exact .nil
 | v::vs,cs,q=>by
  cases cs with
  | nil=>cases q
  | cons c cs=>exact .cons (ztg (zb q).1 h) (zkg (zb q).2)
noncomputable def z5a (o:Obj):List Value:=match o.data with
 | .seq arr _=>arr.toList
 | _=>[]
noncomputable def z3g (o:Obj):Bool:=match o.data with
 | .seq _ _=>true
 | _=>false
theorem zvc {o:Obj} (h:z3g o=true): ∃arr n,o.data= .seq arr n:=by
 unfold z3g at h
 generalize o.data=d at h
 cases d<;>first | exact absurd h Au | exact⟨_,_,rfl⟩
noncomputable def z9f (v:Value):Option Addr:=match v with
 | .ref T=>some T
 | _=>none
theorem zwz {v:Value}{T:Addr} (h:z9f v=some T):v= .ref T:=by cases v<;>cases h;rfl
noncomputable def z0g (K:Frag) (v:Value) (ds:List V):Bool:=(v== .none&&ds.isEmpty)||(z9f v).any fun T=>(K.lookup T).any fun o=>z3g o&&zph ds (z5a o)
theorem zj5 {α:Type}{o:Option α}{f:α→Bool} (h:o.any f=true): ∃a,o=some a∧f a=true:=by
 cases o with
 | none=>cases h
 | some a=>exact⟨a,rfl,h⟩
theorem zv0 {K:Frag}{v:Value}{ds:List V}{h:Heap} (X:K.In h) (q:z0g K v ds=true): ∃cs,z7b h v cs∧RVs h cs ds:=by
 rcases (Ca _ _).mp q with q | q
 ·have q2:=List.isEmpty_iff.mp (zb q).2
  exact⟨[],.inl ⟨Bh.mp (zb q).1,rfl⟩,q2 ▸ .nil⟩
 ·obtain⟨T,eT,q⟩:=zj5 q
  obtain⟨o,eo,q⟩:=zj5 q
  obtain⟨q1,q2⟩:=zb q
  obtain⟨arr,n,e⟩:=zvc q1
  refine⟨_,.inr ⟨_,_,_,_,zwz eT,X _ _ eo,e,rfl⟩,?_⟩
  unfold z5a at q2
  rw[e] at q2
  exact zkg q2
noncomputable def z89 (K:Frag) (fd:FuncData) (ps:List Str):Bool:=
 codeIn K fd.code fd.qualname&&(fd.globals==mainGlobals&&(fd.builtins==builtinsNs&&(zrp fd.params ps&&(!fd.scope.isCoroutine&&(!fd.scope.isGenerator&&fd.scope.kind== .function)))))
structure FdOk (K:Frag) (fd:FuncData) (ps:List Str):Prop where
 code:codeIn K fd.code fd.qualname=true
 glb:fd.globals=mainGlobals
 bui:fd.builtins=builtinsNs
 par:zrp fd.params ps=true
 co:fd.scope.isCoroutine=false
 ge:fd.scope.isGenerator=false
 fn:fd.scope.kind= .function
theorem zvk {K:Frag}{fd:FuncData}{ps:List Str} (h:z89 K fd ps=true):FdOk K fd ps:=
 have h2:=(zb h).2
 have h3:=(zb h2).2
 have h4:=(zb h3).2
 have h5:=(zb h4).2
 have h6:=(zb h5).2
 ⟨(zb h).1,Bh.mp (zb h2).1,Bh.mp (zb h3).1,(zb h4).1,(Bool.not_eq_true' _).mp (zb h5).1,(Bool.not_eq_true' _).mp (zb h6).1,Bh.mp (zb h6).2⟩
noncomputable def zqq (K:Frag) (f:Addr) (ds:List V) (ps rest:List Str) (C:SC) (mine:List Sm):Bool:=
 (z5c K f).any fun fd=>z89 K fd ps&&(z0g K fd.defaults ds&&(zoq fd C&&(zwh fd (ps++rest)&&(fd.closure.isEmpty&&(zpd fd&&zda C mine (zec fd))))))
noncomputable def zjd (K:Frag) (f:Addr) (ps rest:List Str) (C:SC) (mine:List Sm):Bool:=zqq K f [] ps rest C mine
theorem zG {fd:FuncData}{L:Addr}{xs:List Str}{i:Nat}{x:Str}{k:VK} (h:(zjw fd L xs)[i]? =some (x,k)):
  xs[i]? =some x∧k=if fd.scope.names.lookup x=some .cell then .own (((cellsFrom (L+1) fd.scope.names []).lookup x).getD 0) else .loc:=by
 unfold zjw at h
 rw[Bm,Bn] at h
 obtain⟨y,a,b⟩:=h
 cases b
 exact⟨a,rfl⟩
theorem zrb {x y:Str}{c:Addr}: ∀{l:List (Str×Addr)},(l.Pairwise fun x y=>x.2≠y.2)→(x,c)∈l→(y,c)∈l→x=y
 | [],_,h,_=>by cases h
 | (z,d)::l,ap,h1,h2=>by
  rw[List.pairwise_cons] at ap
  rcases List.mem_cons.mp h1 with e1 | e1<;>rcases List.mem_cons.mp h2 with e2 | e2
  ·cases e1;cases e2;rfl
  ·cases e1;exact absurd rfl (ap.1 (y,c) e2)
  ·cases e2;exact absurd rfl (ap.1 (x,c) e1)
  ·exact zrb ap.2 e1 e2
section
variable {G:GS}{A:Around}
theorem zly {fd:FuncData}{xs:List Str} (h:zwh fd xs=true):xs.Nodup∧∀x∈xs,(fd.scope.names.lookup x=some .local∨fd.scope.names.lookup x=some .cell)∧(x==("__debug__":Str))=false∧(x==("__classdict__":Str))=false:=by
 unfold zwh at h
 simp only[Cc,Bo,Bool.not_eq_true',Bh,Ca] at h
 exact⟨zc0 h.1,fun x hx=>⟨(h.2 x hx).1.1,(h.2 x hx).1.2,(h.2 x hx).2⟩⟩
theorem z8x {fd:FuncData}{L f:Addr}{xs:List Str} (h:zwh fd xs=true) (h2:fd.scope.kind= .function) (h3:fd.globals=mainGlobals) (h4:fd.builtins=builtinsNs)
  (ab: ∀n c,(n,c)∈cellsFrom (L+1) fd.scope.names []→L<c) (ap:(cellsFrom (L+1) fd.scope.names []).Pairwise fun x y=>x.2≠y.2):(z7f fd L f xs).ok:=by
 obtain⟨nd,hl⟩:=zly h
 have cl: ∀{x:Str} {c:Addr},VK.own c=(if fd.scope.names.lookup x=some .cell then VK.own (((cellsFrom (L+1) fd.scope.names []).lookup x).getD 0) else .loc)→
   fd.scope.names.lookup x=some .cell∧(cellsFrom (L+1) fd.scope.names []).lookup x=some c:=fun {x c} e=>by
  split at e
  ·rename_i q
   cases e
   obtain⟨c,hc⟩:=Option.isSome_iff_exists.mp (zcz fd.scope.names (L+1) [] q)
   exact⟨q,by rw[hc];rfl⟩
  ·cases e
 have same: ∀(i j:Nat) x k k',(zjw fd L xs)[i]? =some (x,k)→(zjw fd L xs)[j]? =some (x,k')→i=j:=fun i j x k k' hx hy=>by
  have hx:=(zG hx).1
  have hy:=(zG hy).1
  obtain⟨hi,_⟩:=Ce.mp hx
  exact(List.getElem?_inj hi nd).mp (hx.trans hy.symm)
 refine⟨h2,h3,h4,?_,?_,?_,same,?_,?_⟩
 ·intro i x hx
  obtain⟨a,b⟩:=zG hx
  rcases (hl x (Bp a)).1 with q | q
  ·exact q
  ·rw[if_pos q] at b;cases b
 ·intro i x c hx
  obtain⟨a,b⟩:=zG hx
  obtain⟨b1,b2⟩:=cl b
  exact⟨b1,b2,Nat.ne_of_gt (ab x c (mem_of_lookup b2))⟩
 ·intro i x c hx
  have b:=(zG hx).2
  split at b<;>cases b
 ·intro i j x y c hx hy
  have hx':=(cl (zG hx).2).2
  have hy':=(cl (zG hy).2).2
  cases zrb ap (mem_of_lookup hx') (mem_of_lookup hy')
  exact same i j x _ _ hx hy
 ·intro i x k hx
  exact(hl x (Bp (zG hx).1)).2
theorem z9e {fd:FuncData}{L f:Addr}{ps rest:List Str}{names:List (Str×NameKind)}{fns meths:List String}{cells:List Str} (h:zoq fd (ze3 ps rest names fns meths cells)=true)
  (hf: ∀n,n∈fns→n∈G.fns) (hm: ∀n,n∈meths→n∈G.meths):(ze3 ps rest names fns meths cells).ok G (z7f fd L f (ps++rest)):=by
 unfold zoq at h
 rw[Cc] at h
 refine⟨?_,hf,hm,?_,?_⟩
 ·intro i x hx e
  have q:fd.scope.names.lookup x=some .cell:=Bh.mp (Bo.mp h.2 x hx)
  have b:=(zG e).2
  rw[if_pos q] at b;cases b
 ·intro i x r hx
  replace hx:((ps++rest).map (·,false))[i]? =some (x,r):=hx
  rw[Bm,Bn] at hx
  obtain⟨y,a,b⟩:=hx
  cases b
  refine⟨_,by show(zjw fd L (ps++rest))[i]? =_;unfold zjw;rw[Bm,a];rfl,fun _ c q=>?_⟩
  split at q<;>cases q
 ·intro x hx
  exact Bh.mp (Bo.mp h.1 _ (zfd hx))
noncomputable def ziw (G:GS) (A:Around) (f:Value) (vs:List V) (Q:V→Mem→Prop) (m:Mem):Prop:=
 ∀frz s cvs,Rp G frz m s→RVs s.heap cvs vs→codeAny (model G.prog G.w) A (.call f ⟨cvs,[]⟩)
  (fun r s'=>match r with
   | .ok (.ret v)=>PR G frz s Q v s'
   | .ok _=>False
   | .error e=>NoE e s') s
theorem ziw.toS {f:Value}{vs:List V}{Q:V→Mem→Prop}{m:Mem} (h:ziw G A f vs Q m):zc6 G A f vs Q m:=
 .of fun frz s cvs r hv=>wpAny_call (h frz s cvs r hv)
theorem Rp.none_of_ge {frz:Frz}{m:Mem}{s:Shared} (r:Rp G frz m s) {a:Addr} (h:s.heap.objs.size≤a):m a=none∧frz a=none:=by
 constructor
 ·cases e:m a with
  | none=>rfl
  | some o=>exact absurd (r.hmem _ _ e).lt (Nat.not_lt.mpr h)
 ·cases e:frz a with
  | none=>rfl
  | some o=>exact absurd (Heap.lt_size (r.hfrz _ _ e)) (Nat.not_lt.mpr h)
theorem ztk {fd:FuncData}{f:Addr}{ps rest:List Str}{vs:List V}{cvs:List Value}{frz:Frz}{m:Mem}{s:Shared}{h₁:Heap}{tk:Nat} (r:Rp G frz m s) (hv:RVs s.heap cvs vs) (hl:vs.length=ps.length) (hloc:zwh fd (ps++rest)=true)
  (x:InCallC s (callEnvC fd s.heap.objs.size f).locals (bindL (callEnvC fd s.heap.objs.size f).kindOf (ps.zip cvs) fun _=>none) (callEnvC fd s.heap.objs.size f).cells (bindC (callEnvC fd s.heap.objs.size f).kindOf (ps.zip cvs) fun _=>none) {s with heap:=h₁,toks:=tk}):
  Rep G (z7f fd s.heap.objs.size f (ps++rest)) frz ⟨vs.map some++List.replicate rest.length none,m⟩ {s with heap:=h₁,toks:=tk}∧TK s.heap h₁:=by
 obtain⟨nd,hlk⟩:=zly hloc
 have hkeep:=x.toInCall.keep
 have tk0:TK s.heap h₁:= .of hkeep
 have ndp:=(List.nodup_append.mp nd).1
 have ge: ∀{y:Str} {c:Addr},(cellsFrom (s.heap.objs.size+1) fd.scope.names []).lookup y=some c→s.heap.objs.size≤c:=fun e=>Ax (x.above _ _ (mem_of_lookup e))
 have val: ∀{i:Nat} {y:Str} {v:V},(ps++rest)[i]? =some y→(vs.map some++List.replicate rest.length none)[i]? =some (some v)→∃cv,ps[i]? =some y∧cvs[i]? =some cv∧RV s.heap cv v:=fun {i y v} h1 h2=>by
  by_cases hi:i<ps.length
  ·rw[Bg hi] at h1
   rw[Bg (by rw[Ar];exact zj 42121675356701786667 rfl hl hi),Bm,Bn] at h2
   obtain⟨u,hu,e2⟩:=h2
   cases e2
   obtain⟨cv,a,b⟩:=hv.get hu
   exact⟨cv,h1,a,b⟩
  ·rw[Bf (by rw[Ar];exact zj 78438641144831738410 rfl hl hi),List.getElem?_replicate] at h2
   split at h2<;>cases h2
 refine⟨⟨let ⟨_,_,e⟩:=r.same;⟨h₁,tk,by rw[e]⟩,r.hbase,r.hkeep,fun b o e=>hkeep b o (r.hfrz b o e),fun a o e=>(r.hmem a o e).keep tk0 (hkeep a),r.hmemF,r.hsz,(r.none_of_ge (Al _)).2,(r.none_of_ge (Al _)).1,?_,?_,?_⟩,tk0⟩
 ·refine⟨_,x.toInCall.ns,fun i y v hx hv'=>?_⟩
  obtain⟨a,b⟩:=zG hx
  obtain⟨cv,c1,c2,c3⟩:=val a hv'
  refine⟨cv,zi5 ndp c1 c2 ?_,c3.tk tk0⟩
  rcases (hlk y (Bp a)).1 with q | q
  ·exact q
  ·rw[if_pos q] at b;cases b
 ·intro i y c hx
  obtain⟨a,b⟩:=zG hx
  split at b
  ·rename_i q
   cases b
   obtain⟨c,hc⟩:=Option.isSome_iff_exists.mp (zcz fd.scope.names (s.heap.objs.size+1) [] q)
   rw[hc]
   have g:=ge hc
   obtain⟨co,g1,g2⟩:=x.cell y c hc
   refine⟨(r.none_of_ge g).2,(r.none_of_ge g).1,co,_,g1,g2,fun v hv'=>?_⟩
   obtain⟨cv,c1,c2,c3⟩:=val a hv'
   refine⟨cv,zjh ndp c1 c2 ?_,c3.tk tk0⟩
   show ¬fd.scope.names.lookup y=_
   rw[q];decide
  ·cases b
 ·intro i y c hx
  have b:=(zG hx).2
  split at b<;>cases b
theorem zop {h:Heap}{cf:Flow}{fl:Fl}:RF h cf fl→RV h (match cf with | .ret v=>v | _=> .none) (retV fl):=by
 intro a
 cases a with
 | ret q=>exact q
 | next=>exact .none
 | brk=>exact .none
 | cont=>exact .none
theorem zkn {fd:FuncData} (h:zpd fd=true):fd.body= .stmts (zec fd):=by
 obtain⟨_,_,_,b,_,_,_,_,_,_,_,_,_,_⟩:=fd
 cases b<;>first | rfl | cases h
theorem zle {f:Addr}{ds:List V}{c j:Nat}{ps rest:List Str}{names:List (Str×NameKind)}{fns meths:List String}{cells:List Str}{mine:List Sm}{P:PC}{vs:List V}{m:Mem}{Q:V→Mem→Prop}
  (gok:G.ok) (gbi:G.bi) (h:zqq G.K f ds ps rest (ze3 ps rest names fns meths cells) mine=true) (hd:A.depth<recursionLimit) (hA: ∀env,Rm (A.deeper env)) (hP: ∀env,P.run G (A.deeper env))
  (hf: ∀n,n∈fns→n∈G.fns) (hm: ∀n,n∈meths→n∈G.meths) (hl:vs.length=j+c) (hpl:ps.length=c+ds.length) (hj:j≤ds.length)
  (w:zk P mine (fun fl σ'=>Q (retV fl) σ'.mem) ⟨(vs++ds.drop j).map some++List.replicate rest.length none,m⟩):ziw G A (.ref f) vs Q m:=by
 obtain⟨fd,hfd,h⟩:=zj5 h
 obtain⟨o,hK,hdt⟩:=zq7 hfd
 obtain⟨h0,h⟩:=zb h
 obtain⟨h1,h⟩:=zb h
 obtain⟨h2,h⟩:=zb h
 obtain⟨h3,h⟩:=zb h
 obtain⟨h4,h⟩:=zb h
 obtain⟨h5,h6⟩:=zb h
 have F:=zvk h0
 have nd:=zly h3
 intro frz s cvs r hv
 have kin:G.K.In s.heap:=fun a o e=>r.hfrz _ _ (r.hbase _ _ (gok.k a o e))
 have hlim:s.heap.NoLimit:=gok.lim.keeps fun b o e=>r.hfrz _ _ (r.hbase _ _ e)
 obtain⟨dvs,hdv,rdv⟩:=zv0 kin h1
 have hz:=hv.length
 have hdz:=rdv.length
 have rall:=hv.append (rdv.drop j)
 refine codeAny_call_function hd (kin _ _ hK) hdt F.co F.ge (zkn h5) (codeRec_of kin F.code) ?_
 refine zff (c:=c) (j:=j) F.par hdv (List.nodup_append.mp nd.1).1 (hz.trans hl) (hdz▸hpl) (hdz▸hj) _ _ _ _ ?_
 rw[List.isEmpty_iff.mp h4]
 refine wpAny_newFunctionEnv_cells F.fn ?_ fun env he s₁ x=>?_
 ·intro y hy
  rcases (nd.2 y.1 (List.mem_append_left _ (List.of_mem_zip hy).1)).1 with q | q
  ·exact .inl q
  ·exact .inr ⟨q,zcz _ _ _ q⟩
 ·subst he
  refine⟨hlim.keeps x.toInCall.keep,codeAny_func ?_⟩
  obtain⟨h₁,tk,rfl,_⟩:=x.done
  obtain⟨r0,t0⟩:=ztk (rest:=rest) r rall (by simp only[Aa,Ap,hl,hpl,Nat.add_comm j c,Nat.add_assoc,Nat.add_sub_cancel' hj]) h3 x
  have ok:(z7f fd s.heap.objs.size f (ps++rest)).ok:=z8x h3 F.fn F.glb F.bui (fun n c hm=>x.above n c hm) x.apart
  exact(zth mine _ _ ⟨gok,gbi,hA _,hP _,ok,z9e h2 hf hm⟩ (zec fd) h6 _ _ w).then r0 fun cf fl σ₁ s₁ a1 r1 t1 w1=>⟨retV fl,_,zop a1,r1.rp,t0.trans t1,w1⟩
theorem zbi {f:Addr}{ps rest:List Str}{names:List (Str×NameKind)}{fns meths:List String}{cells:List Str}{mine:List Sm}{P:PC}{vs:List V}{m:Mem}{Q:V→Mem→Prop}
  (gok:G.ok) (gbi:G.bi) (h:zjd G.K f ps rest (ze3 ps rest names fns meths cells) mine=true) (hd:A.depth<recursionLimit) (hA: ∀env,Rm (A.deeper env)) (hP: ∀env,P.run G (A.deeper env))
  (hf: ∀n,n∈fns→n∈G.fns) (hm: ∀n,n∈meths→n∈G.meths) (hl:vs.length=ps.length)
  (w:zk P mine (fun fl σ'=>Q (retV fl) σ'.mem) ⟨vs.map some++List.replicate rest.length none,m⟩):ziw G A (.ref f) vs Q m:=
 zle (ds:=[]) (c:=ps.length) (j:=0) gok gbi h hd hA hP hf hm (hl.trans (Nat.zero_add _).symm) rfl (Al _) (by rw[show vs++List.drop 0 ([]:List V)=vs from Ag vs];exact w)
end
section
variable {G:GS}{A:Around}{Γ:FE}{frz:Frz}{σ:St}{s:Shared}
theorem zrj {C fI:Addr}{Q:V→Mem→Prop}{m:Mem} (gok:G.ok) (hm:makesIn G.K C=true) (hi:findIn G.K (.ref C) "__init__"=some (some (.ref fI))) (hf:typeIn G.K (.ref fI)=some (.type "function"))
  (h: ∀x d,m x=none→m d=none→x≠d→ziw G (A.under (.builtin "type.__call__" ⟨[.ref C],[]⟩)) (.ref fI) [.obj x] (fun r m'=>r= .none∧Q (.obj x) m') (upd (upd m d (.dict [])) x (.inst C d))):zc6 G A (.ref C) [] Q m:=by
 intro Γ frz σ s cvs ok r hmem hv
 refine wpAny_call ?_
 cases hv
 obtain⟨mm,nm,_⟩:=r.hns
 refine make_K (r.fr nm) (r.rest []) (r.kin gok) hm hi hf fun x d h' F' N' hlt hdx=>?_
 have N2:News G.base Γ.env.locals h' (ziv G Γ.env.locals s.heap []):=fun p hp=>N' p (Ao _ (Ao _ hp))
 have gx:=N' _ (Aq)
 have gd:=N' _ (Ao _ (Aq))
 have keepL: ∀b o,b≠Γ.env.locals→s.heap.get? b=some o→h'.get? b=some o:=fun b o hb e=>r.keep_of_rest F' N2 b o (by simp) hb e
 have kp:Kp Γ.env.locals s.heap h':=⟨keepL,fun m' n'=>zu1 nm n'▸F'.ns⟩
 have new: ∀b,b≠Γ.env.locals→G.base.get? b=none→d≤b→s.heap.get? b=none:=fun b hb hbase hle=>by
  cases q:s.heap.get? b with
  | none=>rfl
  | some o=>exact absurd (hlt (b,o) (zer.mpr ⟨hb,by simp,hbase,q⟩)) (by simp;omega)
 have sd:=new d gd.2.1 gd.2.2 (Al _)
 have sx:=new x gx.2.1 gx.2.2 (Ax hdx)
 have none_of: ∀b,s.heap.get? b=none→σ.mem b=none∧frz b=none∧(∀(i:Nat) y c,Γ.vars[i]? =some (y,.own c)→c≠b):=fun b hb=>by
  refine⟨?_,?_,?_⟩
  ·cases e:σ.mem b with
   | none=>rfl
   | some o=>obtain⟨y,ey,_⟩:=(r.hmem _ _ e).obj;rw[hb] at ey;cases ey
  ·cases e:frz b with
   | none=>rfl
   | some o=>have:=r.hfrz _ _ e;rw[hb] at this;cases this
  ·intro i y c e q
   obtain⟨_,_,o,_,g,_⟩:=r.hown i y c e
   rw[q,hb] at g;exact(Am _ g.symm).elim
 have r1:=r.growL ok (tk:=s.toks) kp
 obtain⟨d1,d2,d3⟩:=none_of d sd
 obtain⟨x1,x2,x3⟩:=none_of x sx
 have hne:x≠d:=Nat.ne_of_gt hdx
 have r2:=r1.join (a:=d) (o:= .dict []) d1 d2 gd.2.1 d3 (.dict (n:=0) (es:=[]) gd.1 trivial)
 have r3:=r2.join (a:=x) (o:= .inst C d) (by show upd _ _ _ _=_;rw[upn _ _ hne];exact x1) x2 gx.2.1 x3 (.inst gx.1)
 have t1:TK s.heap h':=r.kp_tk kp
 subst hmem
 refine codeAny_mono (h x d x1 d1 hne _ _ [.ref x] r3.inn (.cons (.obj x) .nil)) fun rr s' p=>?_
 rcases rr with e | (_ | _ | _ | v)
 ·exact p.elim
 ·exact p.elim
 ·exact p.elim
 ·exact p.elim
 ·obtain⟨v',m',a,b,c,rfl,q⟩:=p
  cases a
  exact⟨rfl,.obj x,m',.obj x,Rep.back r3 rfl b (fun _ _ q _ e=>yS.mpr ⟨q,e⟩) c,t1.trans c,q⟩
end
structure Lv (A:Around) (k:Nat):Prop where
 hd:A.handled=none
 dp:A.depth+k<recursionLimit
 un:A.units+4 * k+80<cLine
theorem Lv.deeper {A:Around}{k:Nat} (h:Lv A (k+1)) (env:Env):Lv (A.deeper env) k:=
 ⟨h.hd,by have:=h.dp;show A.depth+1+k<_;exact zj 10318666282773073456272425 rfl this,by have:=h.un;show A.units+3+4 * k+80<_;exact zj 11640051065295205308709492342586557375529 rfl this⟩
theorem Lv.rm {A:Around}{k:Nat} (h:Lv A k):Rm A:=⟨h.hd,by have:=h.un;exact zj 84653823084901964365317579817 rfl this⟩
theorem Lv.less {A:Around}{k j:Nat} (h:Lv A k) (e:j≤k):Lv A j:=⟨h.hd,by have:=h.dp;exact zT 120935456316087002934608424 rfl e this,by have:=h.un;exact zT 136676541103115077190083143544267457757832 rfl e this⟩
theorem Lv.room {A:Around}{k:Nat} (h:Lv A k):A.depth<recursionLimit:=by have:=h.dp;exact zj 9575038026519593 rfl this
noncomputable def fnV (K:Frag) (n:String):Value:=match nsIn K mainGlobals (Str.ofString n) with
 | some (some f)=>f
 | _=> .none
noncomputable def z4b (K:Frag) (fns:List String):Bool:=fns.all fun n=>match nsIn K mainGlobals (Str.ofString n) with
 | some (some f)=>keepIn K f
 | _=>false
noncomputable def meA (K:Frag) (C:Addr) (n:String):Addr:=match findIn K (.ref C) (Str.ofString n) with
 | some (some (.ref f))=>f
 | _=>0
noncomputable def zuh (K:Frag) (C:Addr) (ms:List String):Bool:=ms.all fun n=>match findIn K (.ref C) (Str.ofString n) with
 | some (some (.ref f))=>isFn K (.ref f)&&plainGet K C (Str.ofString n)&&keepIn K (.ref f)
 | _=>false
structure Base (G:GS) (P:PC):Prop where
 gok:G.ok
 gbi:G.bi
 pc:P.ok G
 fns:z4b G.K G.fns=true
 meths:zuh G.K P.cls G.meths=true
theorem zfq {G:GS}{A:Around}{P:PC} (b:Base G P) (hcall: ∀n,n∈G.fns→∀vs Q m,P.call n vs Q m→zc6 G A (fnV G.K n) vs Q m) (hmeth: ∀n,n∈G.meths→∀vs Q m,P.meth n vs Q m→zc6 G A (.ref (meA G.K P.cls n)) vs Q m)
  (hloc: ∀v vs Q m,P.loc v vs Q m→∃a fo fd,v= .obj a∧m a=some (.fn fo)∧fo.data= .func fd∧zc6 G A (.ref a) vs Q m):P.run G A where
 ok:=b.pc
 call:=fun n hn=>by
  have h:=Bo.mp b.fns n hn
  have hc:=hcall n hn
  unfold fnV at hc
  split at h
  ·rename_i f e
   rw[e] at hc
   exact⟨f,e,h,hc⟩
  ·cases h
 meth:=fun n hn=>by
  have h:=Bo.mp b.meths n hn
  have hc:=hmeth n hn
  unfold meA at hc
  split at h
  ·rename_i f e
   rw[e] at hc
   simp only[Cc] at h
   exact⟨f,e,h.1.1,h.1.2,h.2,hc⟩
  ·cases h
 loc:=hloc
noncomputable def za9 (cls:Addr):PC where
 cls:=cls
 fld:=fun n=>["Diff_Timeout","Diff_EditCost","Match_Threshold","Match_Distance","Patch_DeleteThreshold","Patch_Margin","Match_MaxBits"].contains n
 cc:=fun n=>if n="DIFF_DELETE" then some (.int (-1)) else if n="DIFF_INSERT" then some (.int 1) else if n="DIFF_EQUAL" then some (.int 0) else none
 call:=fun _ _ _ _=>False
 meth:=fun _ _ _ _=>False
 loc:=fun _ _ _ _=>False
theorem Base.swap {G:GS}{P P':PC} (b:Base G P) (h1:P'.cls=P.cls) (h2:P'.fld=P.fld) (h3:P'.cc=P.cc):Base G P':=by
 refine⟨b.gok,b.gbi,⟨?_,?_,?_,?_,?_⟩,b.fns,?_⟩
 ·rw[h1];exact b.pc.hd
 ·rw[h1,h2];exact b.pc.get
 ·rw[h1,h3];exact b.pc.cc
 ·rw[h1];exact b.pc.set
 ·rw[h1];exact b.pc.over
 ·rw[h1];exact b.meths
theorem zzd {G:GS}{A:Around}{cls:Addr} (b:Base G (za9 cls)):(za9 cls).run G A:=
 zfq b (fun _ _ _ _ _ h=>h.elim) (fun _ _ _ _ _ h=>h.elim) (fun _ _ _ _ h=>h.elim)
noncomputable def vA:Value→Addr
 | .ref a=>a
 | _=>0
noncomputable def fnA (K:Frag) (n:String):Addr:=vA (fnV K n)
noncomputable def zdd (K:Frag):Addr:=fnA K "diff_match_patch"
noncomputable def zws:List String:=["Diff_Timeout","Diff_EditCost","Match_Threshold","Match_Distance","Patch_DeleteThreshold","Patch_Margin","Match_MaxBits"]
noncomputable def z4d (K:Frag) (cls:Addr) (n:String) (k:Int):Bool:=plainGet K cls (Str.ofString n)&&!copiedNames.contains (Str.ofString n) &&
 match findIn K (.ref cls) (Str.ofString n) with
 | some (some (.int i t))=>i==k&&specialIn K (.int i t) "__get__"==some none
 | _=>false
noncomputable def z10 (K:Frag) (cls:Addr):Bool:=
 hasDictIn K cls&&zws.all (fun n=>plainGet K cls (Str.ofString n)&&findIn K (.ref cls) (Str.ofString n)==some none&&takerIn K cls (Str.ofString n)==some none) &&
 findIn K (.ref cls) "__setattr__"==some (some (.builtin "object.__setattr__"))&&plainOver K cls&&z4d K cls "DIFF_DELETE" (-1)&&z4d K cls "DIFF_INSERT" 1&&z4d K cls "DIFF_EQUAL" 0
noncomputable def zvu (K:Frag):Bool:=K.all fun p=>!(p.2.cls== .type "list")
noncomputable def z4s (K:Frag):Bool:=["len","min","max","sum","range","list","chr","ord"].all fun n=>nsIn K mainGlobals (Str.ofString n)==some none
theorem zom {K:Frag}{cls:Addr}{n:String}{k:Int} (h:z4d K cls n k=true):plainGet K cls (Str.ofString n)=true∧copiedNames.contains (Str.ofString n)=false∧
  ∃a,findIn K (.ref cls) (Str.ofString n)=some (some a)∧specialIn K a "__get__"=some none∧handedIn a=true∧∀h,RV h a (.int k):=by
 unfold z4d at h
 simp only[Cc,Bool.not_eq_true'] at h
 obtain⟨⟨h1,h2⟩,h3⟩:=h
 refine⟨h1,h2,?_⟩
 split at h3
 ·rename_i i t e
  simp only[Cc,Bh] at h3
  obtain⟨rfl,h3⟩:=h3
  exact⟨_,e,h3,rfl,fun _=> .int _ _⟩
 ·cases h3
theorem z8o {G:GS} (h:z10 G.K (zdd G.K)=true):(za9 (zdd G.K)).ok G:=by
 unfold z10 at h
 simp only[Cc,Bh,Bo] at h
 obtain⟨⟨⟨⟨⟨⟨h1,h2⟩,h3⟩,h4⟩,h5⟩,h6⟩,h7⟩:=h
 constructor
 ·exact h1
 ·intro n hn
  have:=h2 n (List.contains_iff_mem.mp hn)
  exact⟨this.1.1,this.1.2,this.2⟩
 ·intro n v hv
  replace hv:(if n="DIFF_DELETE" then some (V.int (-1)) else if n="DIFF_INSERT" then some (.int 1) else if n="DIFF_EQUAL" then some (.int 0) else none)=some v:=hv
  split at hv
  ·rename_i e;subst e;cases hv;exact zom h5
  ·split at hv
   ·rename_i e;subst e;cases hv;exact zom h6
   ·split at hv
    ·rename_i e;subst e;cases hv;exact zom h7
    ·cases hv
 ·exact h3
 ·exact h4
theorem z3h (b:Bi):bootBuiltins (Str.ofString b.name)=some b.val:=by
 cases b
 ·show bootBuiltins "len"=some (.builtin "len");boot_by_name
 ·show bootBuiltins "min"=some (.builtin "min");boot_by_name
 ·show bootBuiltins "max"=some (.builtin "max");boot_by_name
 ·show bootBuiltins "sum"=some (.builtin "sum");boot_by_name
 ·show bootBuiltins "range"=some (.type "range");boot_by_name
 ·show bootBuiltins "list"=some (.type "list");boot_by_name
 ·show bootBuiltins "chr"=some (.builtin "chr");boot_by_name
 ·show bootBuiltins "ord"=some (.builtin "ord");boot_by_name
noncomputable def z7u (sc:Addr) (o:Obj) (ns:List Int):Mem:=fun a=>if a=sc then some (.ro o (ns.map V.int)) else none
theorem zy1 {sc a:Addr}{ol:Obj}{ns:List Int}{o:O} (e:z7u sc ol ns a=some o):a=sc∧O.ro ol (ns.map V.int)=o:=by
 unfold z7u at e
 split at e
 ·rename_i q;exact⟨q,Option.some.inj e⟩
 ·cases e
theorem zw0 {h:Heap}{vs:List Value}{ns:List Int} (r:IntsAre vs ns):RVs h vs (ns.map V.int):=by
 induction r with
 | nil=>exact .nil
 | cons n t _ ih=>exact .cons (.int n t) ih
theorem zla {g:Heap}{sc b:Addr}{o ol:Obj}{xs:Array Value}{n:Nat} (gl:g.get? sc=some ol) (dl:ol.data= .seq xs n) (e:g.get? b=some o) (hd: ∀xs n,o.data≠ .seq xs n):(hideAll g [sc]).get? b=some o:=
 hideAll_get _ e fun q=>by
  obtain rfl:=Bv.mp q
  obtain rfl:=Option.some.inj (gl.symm.trans e)
  exact hd _ _ dl
theorem z4t {g:Heap}{K:Frag}{sc:Addr}{ol:Obj} (X:K.In g) (hnl:zvu K=true) (gl:g.get? sc=some ol) (cl:ol.cls= .type "list"):K.In (hideAll g [sc]):=fun a o e=>hideAll_get _ (X a o e) fun q=>by
 obtain rfl:=Bv.mp q
 have h2:=Bo.mp hnl _ (mem_of_lookupK e)
 obtain rfl:=Option.some.inj (gl.symm.trans (X _ _ e))
 simp[cl] at h2
theorem zpb {g:Heap}{sc:Addr}{ol:Obj}{xs:Array Value}{n:Nat} (gl:g.get? sc=some ol) (dl:ol.data= .seq xs n) {a:Addr}{m:Str→Option Value} (h:g.Ns a m):(hideAll g [sc]).Ns a m:=by
 obtain⟨o,es,ep,e,d,r⟩:=h
 exact⟨o,es,ep,zla gl dl e (fun xs n q=>by rw[d] at q;cases q),d,r⟩
theorem z7z (b:Bi):b.name∈["len","min","max","sum","range","list","chr","ord"]:=by cases b<;>decide +kernel
theorem zx2:Lv callerA 500:=⟨rfl,by show 301+500<1000;exact zqp 286825178857374777 rfl,by show callerA.units+4 * 500+80<cLine;decide⟩
noncomputable def zu8 (as:List Addr) (h:Heap):Frag:=as.filterMap fun a=>(h.get? a).map fun o=>(a,o)
theorem zve {as:List Addr}{h:Heap}:(zu8 as h).In h:=fun a o e=>by
 have:=mem_of_lookupK e
 unfold zu8 at this
 rw[List.mem_filterMap] at this
 obtain⟨b,_,e⟩:=this
 rw[Bn] at e
 obtain⟨x,e1,e2⟩:=e
 cases e2
 exact e1
noncomputable def z45 (chk:Frag→Bool) (as ts:List Addr):Hook where
 α:=Bool×List (Option Obj)
 obs:=fun s=>(chk (zu8 as s.heap),ts.map s.heap.get?)
 val:=fun _=>(true,ts.map fun _=>some (tabObj #[]))
 says:=fun _ h=>(∃K:Frag,K.In h∧chk K=true)∧∀P,P∈ts→h.get? P=some (tabObj #[])
 of:=fun _ _ x=>⟨⟨_,zve,(Prod.mk.inj x).1⟩,List.map_inj_left.mp (Prod.mk.inj x).2⟩
 keeps:=fun _ _ _ x k=>⟨let ⟨K,a,b⟩:=x.1;⟨K,fun p o e=>k _ _ (a p o e),b⟩,fun P hP=>k _ _ (x.2 P hP)⟩
theorem zum {p q:Program}{loose:List Str}{Xt:Shared→Bool}{α:Type}{Yf:Shared→α}{Ya:World→α}{N:Nat}{g0:Bool}
  (hb: ∀w:World,(fencedOpening treeTable p w N).map (fun s=>(s.heap,s.gens,s.drawn,s.toks))=some (boot_heap w.params,Array.mk [],boot_drawn,boot_toks))
  (h: ∀(w:World) (os:OsState),(topFrom treeTable p w N ⟨boot_heap w.params,Array.mk [],boot_drawn,boot_toks,os⟩).map (fun s=>(openSeen q loose (importedModules p.main.body) Xt g0 s,Yf s))=some (openGood q loose,Ya w)):
  LeftO p q loose Xt Yf Ya N g0:=fun w=>by
 refine bc fun z9=>?_
 obtain⟨⟨h0,gs,d,k,os⟩,e,e'⟩:=Bn.mp (hb w)
 refine z9 ?_
 cases e'
 unfold openEnds
 rw[e]
 exact h w os
section
variable {P:PC}{m:Mem}{σ:St}
theorem r_lit {v:V}{Q:V→St→Prop}:wpE P (.lit v) Q σ=Q v σ:=rfl
theorem r_var {i:Nat}{Q:V→St→Prop}:wpE P (.var i) Q σ=(match σ.loc[i]? with | some (some v)=>Q v σ | _=>False):=rfl
theorem r_bin {op:Operator}{a b:Ex}{Q:V→St→Prop}:wpE P (.bin op a b) Q σ=wpE P a (fun v σ₁=>wpE P b (fun u σ₂=>zge σ₂.mem op v u fun r m=>Q r {σ₂ with mem:=m}) σ₁) σ:=rfl
theorem r_neg {a:Ex}{Q:V→St→Prop}:wpE P (.neg a) Q σ=wpE P a (fun v σ₁=>match v with | .int i=>Q (.int (-i)) σ₁ | _=>False) σ:=rfl
theorem r_not {a:Ex}{Q:V→St→Prop}:wpE P (.not a) Q σ=wpE P a (fun v σ₁=>zR σ₁.mem v fun b=>Q (.bool (!b)) σ₁) σ:=rfl
theorem r_list {es:List Ex}{Q:V→St→Prop}:wpE P (.list es) Q σ=zk9 P es (fun vs σ₁=> ∀a,σ₁.mem a=none→Q (.obj a) {σ₁ with mem:=upd σ₁.mem a (.list vs)}) σ:=rfl
theorem r_tup {es:List Ex}{Q:V→St→Prop}:wpE P (.tup es) Q σ=zk9 P es (fun vs σ₁=>Q (.tup vs) σ₁) σ:=rfl
theorem r_cmp {a:Ex}{ops:List CmpOp}{es:List Ex}{Q:V→St→Prop}:wpE P (.cmp a ops es) Q σ=wpE P a (fun v σ₁=>zsk P ops es v (fun b σ₂=>Q (.bool b) σ₂) σ₁) σ:=rfl
theorem r_band {es:List Ex}{Q:V→St→Prop}:wpE P (.band es) Q σ=zwa P true es Q σ:=rfl
theorem r_bor {es:List Ex}{Q:V→St→Prop}:wpE P (.bor es) Q σ=zwa P false es Q σ:=rfl
theorem r_idx {a i:Ex}{Q:V→St→Prop}:wpE P (.idx a i) Q σ=wpE P a (fun v σ₁=>wpE P i (fun u σ₂=>zj9 σ₂.mem v u fun r=>Q r σ₂) σ₁) σ:=rfl
theorem r_slc {a lo hi st:Ex}{Q:V→St→Prop}:wpE P (.slc a lo hi st) Q σ=wpE P a (fun v σ₁=>wpE P lo (fun l σ₂=>wpE P hi (fun h σ₃=>wpE P st (fun s σ₄=>zmh σ₄.mem v l h s fun r m=>Q r {σ₄ with mem:=m}) σ₃) σ₂) σ₁) σ:=rfl
theorem r_attr {o:Ex}{n:String}{Q:V→St→Prop}:wpE P (.attr o n) Q σ=wpE P o (fun v σ₁=>zhv P σ₁.mem v n fun r=>Q r σ₁) σ:=rfl
theorem r_bi {b:Bi}{args:List Ex}{Q:V→St→Prop}:wpE P (.bi b args) Q σ=zk9 P args (fun vs σ₁=>zsj σ₁.mem b vs fun r m=>Q r {σ₁ with mem:=m}) σ:=rfl
theorem r_call {f:String}{args:List Ex}{Q:V→St→Prop}:wpE P (.call f args) Q σ=zk9 P args (fun vs σ₁=>P.call f vs (fun r m=>Q r {σ₁ with mem:=m}) σ₁.mem) σ:=rfl
theorem r_me {o:Ex}{m:Me}{args:List Ex}{Q:V→St→Prop}:wpE P (.me o m args) Q σ=wpE P o (fun v σ₁=>zwk σ₁.mem v m∧zk9 P args (fun vs σ₂=>zvd σ₂.mem v m vs fun r m'=>Q r {σ₂ with mem:=m'}) σ₁) σ:=rfl
theorem r_imeth {o:Ex}{n:String}{args:List Ex}{Q:V→St→Prop}:wpE P (.imeth o n args) Q σ=wpE P o (fun v σ₁=>(∃a d fs,v= .obj a∧σ₁.mem a=some (.inst P.cls d)∧σ₁.mem d=some (.dict fs)∧yD n fs=none)∧zk9 P args (fun vs σ₂=>P.meth n (v::vs) (fun r m=>Q r {σ₂ with mem:=m}) σ₂.mem) σ₁) σ:=rfl
theorem r_comp {elt:Ex}{one:Bool}{is:List Nat}{it:Ex}{cs:List Ex}{n:Nat}{caps:List Nat}{Q:V→St→Prop}:wpE P (.comp elt one is it cs n caps) Q σ=wpE P it (fun v σ₁=>za5 σ₁.mem v fun vs g=>sma vs.length∧zed (ze7 one is) (zia P true cs) (wpE P elt) g (fun us σ'=> ∀a,σ'.mem a=none→Q (.obj a) {σ₁ with mem:=upd σ'.mem a (.list us)}) vs [] (zfw σ₁ n caps)) σ:=rfl
theorem r_es0 {Q:List V→St→Prop}:zk9 P [] Q σ=Q [] σ:=rfl
theorem r_es1 {e:Ex}{es:List Ex}{Q:List V→St→Prop}:zk9 P (e::es) Q σ=wpE P e (fun v σ₁=>zk9 P es (fun vs σ₂=>Q (v::vs) σ₂) σ₁) σ:=rfl
theorem r_ch1 {op:CmpOp}{e:Ex}{v:V}{Q:Bool→St→Prop}:zsk P [op] [e] v Q σ=wpE P e (fun u σ₁=>zdw σ₁.mem op v u fun b=>Q b σ₁) σ:=rfl
theorem r_ch2 {op op':CmpOp}{e:Ex}{ops:List CmpOp}{es:List Ex}{v:V}{Q:Bool→St→Prop}:zsk P (op::op'::ops) (e::es) v Q σ=wpE P e (fun u σ₁=>zdw σ₁.mem op v u fun b=>if b then zsk P (op'::ops) es u Q σ₁ else Q false σ₁) σ:=rfl
theorem r_bo1 {k:Bool}{e:Ex}{Q:V→St→Prop}:zwa P k [e] Q σ=wpE P e Q σ:=rfl
theorem r_bo2 {k:Bool}{e d:Ex}{es:List Ex}{Q:V→St→Prop}:zwa P k (e::d::es) Q σ=wpE P e (fun v σ₁=>zR σ₁.mem v fun b=>if b=k then zwa P k (d::es) Q σ₁ else Q v σ₁) σ:=rfl
theorem r_tnot {a:Ex}{w:(V→St→Prop)→St→Prop}{Q:Bool→St→Prop}:wpT P (.not a) w Q σ=wpT P a (wpE P a) (fun b σ₁=>Q (!b) σ₁) σ:=rfl
theorem r_tband {es:List Ex}{w:(V→St→Prop)→St→Prop}{Q:Bool→St→Prop}:wpT P (.band es) w Q σ=zia P true es Q σ:=rfl
theorem r_tbor {es:List Ex}{w:(V→St→Prop)→St→Prop}{Q:Bool→St→Prop}:wpT P (.bor es) w Q σ=zia P false es Q σ:=rfl
theorem r_tcmp {a:Ex}{ops:List CmpOp}{es:List Ex}{w:(V→St→Prop)→St→Prop}{Q:Bool→St→Prop}:wpT P (.cmp a ops es) w Q σ=wpE P a (fun v σ₁=>zsk P ops es v Q σ₁) σ:=rfl
theorem r_tvar {i:Nat}{w:(V→St→Prop)→St→Prop}{Q:Bool→St→Prop}:wpT P (.var i) w Q σ=w (fun v σ₁=>zR σ₁.mem v fun b=>Q b σ₁) σ:=rfl
theorem r_tcall {f:String}{args:List Ex}{w:(V→St→Prop)→St→Prop}{Q:Bool→St→Prop}:wpT P (.call f args) w Q σ=w (fun v σ₁=>zR σ₁.mem v fun b=>Q b σ₁) σ:=rfl
theorem r_tme {o:Ex}{m:Me}{args:List Ex}{w:(V→St→Prop)→St→Prop}{Q:Bool→St→Prop}:wpT P (.me o m args) w Q σ=w (fun v σ₁=>zR σ₁.mem v fun b=>Q b σ₁) σ:=rfl
theorem r_tidx {a i:Ex}{w:(V→St→Prop)→St→Prop}{Q:Bool→St→Prop}:wpT P (.idx a i) w Q σ=w (fun v σ₁=>zR σ₁.mem v fun b=>Q b σ₁) σ:=rfl
theorem r_tbi {b:Bi}{args:List Ex}{w:(V→St→Prop)→St→Prop}{Q:Bool→St→Prop}:wpT P (.bi b args) w Q σ=w (fun v σ₁=>zR σ₁.mem v fun b=>Q b σ₁) σ:=rfl
theorem r_ts0 {k:Bool}{Q:Bool→St→Prop}:zia P k [] Q σ=Q k σ:=rfl
theorem r_ts1 {k:Bool}{e:Ex}{es:List Ex}{Q:Bool→St→Prop}:zia P k (e::es) Q σ=wpT P e (wpE P e) (fun b σ₁=>if b=k then zia P k es Q σ₁ else Q (!k) σ₁) σ:=rfl
theorem r_tgs0 {v:V}{Q:St→Prop}:zhz P [] v Q σ=Q σ:=rfl
theorem r_tgs1 {t:Tg}{ts:List Tg}{v:V}{Q:St→Prop}:zhz P (t::ts) v Q σ=zi6 P t v (fun σ₁=>zhz P ts v Q σ₁) σ:=rfl
theorem r_sexpr {e:Ex}{Q:Fl→St→Prop}:wpS P (.expr e) Q σ=wpE P e (fun _ σ₁=>Q .next σ₁) σ:=rfl
theorem r_sassign {ts:List Tg}{e:Ex}{Q:Fl→St→Prop}:wpS P (.assign ts e) Q σ=wpE P e (fun v σ₁=>zhz P ts v (fun σ₂=>Q .next σ₂) σ₁) σ:=rfl
theorem r_saug {i:Nat}{op:Operator}{e:Ex}{Q:Fl→St→Prop}:wpS P (.aug i op e) Q σ=(match σ.loc[i]? with | some (some v)=>wpE P e (fun u σ₁=>zrr σ₁.mem op v u fun r=>Q .next (σ₁.set i r)) σ | _=>False):=rfl
theorem r_sdel {o i:Ex}{Q:Fl→St→Prop}:wpS P (.del o i) Q σ=wpE P o (fun ov σ₁=>wpE P i (fun iv σ₂=> ∃a k vs j,ov= .obj a∧iv= .int k∧zr k∧σ₂.mem a=some (.list vs)∧zn4 vs.length k=some j∧sma vs.length∧Q .next {σ₂ with mem:=upd σ₂.mem a (.list (vs.eraseIdx j))}) σ₁) σ:=rfl
theorem r_sife {c:Ex}{a b:List Sm}{Q:Fl→St→Prop}:wpS P (.ife c a b) Q σ=wpT P c (wpE P c) (fun t σ₁=>if t then zk P a Q σ₁ else zk P b Q σ₁) σ:=rfl
theorem r_swhl {c:Ex}{b:List Sm}{Q:Fl→St→Prop}:wpS P (.whl c b) Q σ=zv9 (wpT P c (wpE P c)) (zk P b) Q σ:=rfl
theorem r_sfr {t:Tg}{it:Ex}{b:List Sm}{Q:Fl→St→Prop}:wpS P (.fr t it b) Q σ=wpE P it (fun v σ₁=>za5 σ₁.mem v fun vs g=>zdz (zi6 P t) (zk P b) g Q vs σ₁) σ:=rfl
theorem r_sret {e:Ex}{Q:Fl→St→Prop}:wpS P (.ret e) Q σ=wpE P e (fun v σ₁=>Q (.ret v) σ₁) σ:=rfl
theorem r_ss0 {Q:Fl→St→Prop}:zk P [] Q σ=Q .next σ:=rfl
theorem r_ss1 {s:Sm}{ss:List Sm}{Q:Fl→St→Prop}:zk P (s::ss) Q σ=wpS P s (fun fl σ₁=>match fl with | .next=>zk P ss Q σ₁ | .brk=>Q .brk σ₁ | .cont=>Q .cont σ₁ | .ret r=>Q (.ret r) σ₁) σ:=rfl
theorem bin_add {a b:Int}{Q:V→Mem→Prop}:zge m .Add (.int a) (.int b) Q=Q (.int (a+b)) m:=rfl
theorem bin_sub {a b:Int}{Q:V→Mem→Prop}:zge m .Sub (.int a) (.int b) Q=Q (.int (a-b)) m:=rfl
theorem bin_mul {a b:Int}{Q:V→Mem→Prop}:zge m .Mult (.int a) (.int b) Q=(zr a∧Q (.int (a * b)) m):=rfl
theorem bin_div {a b:Int}{Q:V→Mem→Prop}:zge m .FloorDiv (.int a) (.int b) Q=(0<b∧zr b∧Q (.int (a/b)) m):=rfl
theorem bin_mod {a b:Int}{Q:V→Mem→Prop}:zge m .Mod (.int a) (.int b) Q=(0<b∧Q (.int (a%b)) m):=rfl
theorem zy2 {a b:Bool}{Q:V→Mem→Prop}:zge m .Add (.bool a) (.bool b) Q=Q (.int ((if a=true then 1 else 0)+(if b=true then 1 else 0))) m:=rfl
theorem zuw {a:Int}{b:Bool}{Q:V→Mem→Prop}:zge m .Add (.int a) (.bool b) Q=Q (.int (a+(if b=true then 1 else 0))) m:=rfl
theorem zwm {a:Int}{Q:V→Mem→Prop}:zge m .Div (.int a) (.int 2) Q=(0≤a∧a≤8∧(2:Int)=2∧Q (.flt (Float64.ofFrac false a.natAbs 2)) m):=rfl
theorem z16 {a:Int}{y:UInt64}{Q:Bool→Prop}:zdw m .Lt (.int a) (.flt y) Q=Q (Float64.cmpInt y a==some .gt):=rfl
theorem bin_cat {a b:Tx}{Q:V→Mem→Prop}:zge m .Add (.str a) (.str b) Q=(sma a.length∧sma b.length∧Q (.str (a++b)) m):=rfl
theorem z8u {a:Addr}{k:Int}{Q:V→Mem→Prop}:zge m .Mult (.obj a) (.int k) Q=(∃x,m a=some (.list [x])∧zr k∧sma k.toNat∧∀c,m c=none→Q (.obj c) (upd m c (.list (List.replicate k.toNat x)))):=rfl
theorem cmp_eqi {a b:Int}{Q:Bool→Prop}:zdw m .Eq (.int a) (.int b) Q=Q (decide (a=b)):=rfl
theorem cmp_eqs {a b:Tx}{Q:Bool→Prop}:zdw m .Eq (.str a) (.str b) Q=Q (decide (a=b)):=rfl
theorem cmp_nei {a b:Int}{Q:Bool→Prop}:zdw m .NotEq (.int a) (.int b) Q=Q (!decide (a=b)):=rfl
theorem cmp_nes {a b:Tx}{Q:Bool→Prop}:zdw m .NotEq (.str a) (.str b) Q=Q (!decide (a=b)):=rfl
theorem cmp_lt {a b:Int}{Q:Bool→Prop}:zdw m .Lt (.int a) (.int b) Q=Q (decide (a<b)):=rfl
theorem cmp_le {a b:Int}{Q:Bool→Prop}:zdw m .LtE (.int a) (.int b) Q=Q (decide (a≤b)):=rfl
theorem cmp_gt {a b:Int}{Q:Bool→Prop}:zdw m .Gt (.int a) (.int b) Q=Q (decide (b<a)):=rfl
theorem cmp_ge {a b:Int}{Q:Bool→Prop}:zdw m .GtE (.int a) (.int b) Q=Q (decide (b≤a)):=rfl
theorem z79 {a b:Addr}{Q:Bool→Prop}:zdw m .Eq (.obj a) (.obj b) Q= ∃d e,rd 8 m (.obj a)=some d∧rd 8 m (.obj b)=some e∧Q (PyData.eqv d e):=rfl
theorem z1m {a b:Addr}{Q:Bool→Prop}:zdw m .NotEq (.obj a) (.obj b) Q= ∃d e,rd 8 m (.obj a)=some d∧rd 8 m (.obj b)=some e∧Q (!PyData.eqv d e):=rfl
theorem tr_none {Q:Bool→Prop}:zR m .none Q=Q false:=rfl
theorem tr_bool {b:Bool}{Q:Bool→Prop}:zR m (.bool b) Q=Q b:=rfl
theorem tr_int {i:Int}{Q:Bool→Prop}:zR m (.int i) Q=Q (i !=0):=rfl
theorem tr_str {x:Tx}{Q:Bool→Prop}:zR m (.str x) Q=(sma x.length∧Q (!x.isEmpty)):=rfl
theorem tr_tup {vs:List V}{Q:Bool→Prop}:zR m (.tup vs) Q=(sma vs.length∧Q (!vs.isEmpty)):=rfl
theorem ix_str {x:Tx}{i:Int}{Q:V→Prop}:zj9 m (.str x) (.int i) Q=(zr i∧∃c,zK x i=some c∧Q (.str [c])):=rfl
theorem ix_tup {vs:List V}{i:Int}{Q:V→Prop}:zj9 m (.tup vs) (.int i) Q=(zr i∧∃v,zK vs i=some v∧Q v):=rfl
theorem zqs {a:Addr}{i:Int}{Q:V→Prop}:zj9 m (.obj a) (.int i) Q=(zr i∧∃vs v,m a=some (.list vs)∧zK vs i=some v∧Q v):=rfl
theorem sl_ii {x:Tx}{a b:Int}{Q:V→Mem→Prop}:zmh m (.str x) (.int a) (.int b) .none Q=(sma x.length∧Q (.str (zcd x (some a) (some b))) m):=rfl
theorem sl_in {x:Tx}{a:Int}{Q:V→Mem→Prop}:zmh m (.str x) (.int a) .none .none Q=(sma x.length∧Q (.str (zcd x (some a) none)) m):=rfl
theorem sl_ni {x:Tx}{b:Int}{Q:V→Mem→Prop}:zmh m (.str x) .none (.int b) .none Q=(sma x.length∧Q (.str (zcd x none (some b))) m):=rfl
theorem z6p {l:Addr}{b:Int}{Q:V→Mem→Prop}:zmh m (.obj l) .none (.int b) .none Q=(∃vs,(m l=some (.list vs)∨∃o,m l=some (.ro o vs))∧sma vs.length∧∀c,m c=none→Q (.obj c) (upd m c (.list (zcd vs none (some b))))):=rfl
theorem bi_lens {x:Tx}{Q:V→Mem→Prop}:zsj m .len [.str x] Q=(sma x.length∧Q (.int x.length) m):=rfl
theorem bi_lent {vs:List V}{Q:V→Mem→Prop}:zsj m .len [.tup vs] Q=(sma vs.length∧Q (.int vs.length) m):=rfl
theorem zdg {a:Addr}{Q:V→Mem→Prop}:zsj m .len [.obj a] Q=(∃vs,(m a=some (.list vs)∨∃o,m a=some (.ro o vs))∧sma vs.length∧Q (.int vs.length) m):=rfl
theorem bi_min {a b:Int}{Q:V→Mem→Prop}:zsj m .min [.int a,.int b] Q=Q (.int (if b<a then b else a)) m:=rfl
theorem bi_rng {a:Int}{Q:V→Mem→Prop}:zsj m .range [.int a] Q=(zr a∧Q (.rng 0 a 1) m):=rfl
theorem bi_rng2 {a b:Int}{Q:V→Mem→Prop}:zsj m .range [.int a,.int b] Q=(zr a∧zr b∧Q (.rng a b 1) m):=rfl
theorem me_find {x t:Tx}{Q:V→Mem→Prop}:zvd m (.str x) .find [.str t] Q=(sma x.length∧sma t.length∧∀r,zga x t 0 r→Q (.int r) m):=rfl
theorem me_find2 {x t:Tx}{i:Int}{Q:V→Mem→Prop}:zvd m (.str x) .find [.str t,.int i] Q=(sma x.length∧sma t.length∧0≤i∧∀r,zga x t i.toNat r→Q (.int r) m):=rfl
theorem me_app {a:Addr}{v:V}{Q:V→Mem→Prop}:zvd m (.obj a) .append [v] Q=(∃vs,m a=some (.list vs)∧sma vs.length∧Q .none (upd m a (.list (vs++[v])))):=rfl
theorem ok_find {x:Tx}:zwk m (.str x) .find=True:=rfl
theorem ok_app {a:Addr}:zwk m (.obj a) .append= ∃l,m a=some (.list l):=rfl
theorem aug_addi {a b:Int}{Q:V→Prop}:zrr m .Add (.int a) (.int b) Q=Q (.int (a+b)):=rfl
theorem aug_adds {a b:Tx}{Q:V→Prop}:zrr m .Add (.str a) (.str b) Q=(sma a.length∧sma b.length∧Q (.str (a++b))):=rfl
theorem aug_subi {a b:Int}{Q:V→Prop}:zrr m .Sub (.int a) (.int b) Q=Q (.int (a-b)):=rfl
theorem tg_idx {o i:Ex}{v:V}{Q:St→Prop}:zi6 P (.idx o i) v Q σ=wpE P o (fun ov σ₁=>wpE P i (fun iv σ₂=> ∃a k vs j,ov= .obj a∧iv= .int k∧zr k∧σ₂.mem a=some (.list vs)∧zn4 vs.length k=some j∧Q {σ₂ with mem:=upd σ₂.mem a (.list (vs.set j v))}) σ₁) σ:=rfl
theorem tg_slc {o lo hi:Ex}{v:V}{Q:St→Prop}:zi6 P (.slc o lo hi) v Q σ=wpE P o (fun ov σ₁=>wpE P lo (fun l σ₂=>wpE P hi (fun h σ₃=> ∃a b ia ib xs ys,ov= .obj a∧v= .obj b∧zhu l=some ia∧zhu h=some ib∧a≠b∧
   σ₃.mem a=some (.list xs)∧σ₃.mem b=some (.list ys)∧sma xs.length∧sma ys.length∧
   Q {σ₃ with mem:=upd σ₃.mem a (.list (xs.take (zfj xs.length ia)++ys++xs.drop (max (zfj xs.length ia) (zh5 xs.length ib))))}) σ₂) σ₁) σ:=rfl
theorem tg_tup {is:List Nat}{vs:List V}{Q:St→Prop}:zi6 P (.tup is) (.tup vs) Q σ=(vs.length=is.length∧Q (σ.setAll is vs)):=rfl
theorem tg_var {i:Nat}{v:V}{Q:St→Prop}:zi6 P (.var i) v Q σ=Q (σ.set i v):=rfl
theorem it_str {x:Tx}{K:List V→(Mem→Prop)→Prop}:za5 m (.str x) K=(sma x.length∧K (x.map fun c=> .str [c]) fun _=>True):=rfl
theorem it_rng {a b c:Int}{K:List V→(Mem→Prop)→Prop}:za5 m (.rng a b c) K=(zr a∧zr b∧zr c∧0<c∧K (zq6 a b c) fun _=>True):=rfl
theorem zzc {a:Addr}{K:List V→(Mem→Prop)→Prop}:za5 m (.obj a) K=(∃vs,m a=some (.list vs)∧sma vs.length∧K vs fun m'=>m' a=some (.list vs)):=rfl
theorem neg_int {i:Int}{Q:V→St→Prop}:(match V.int i with | .int i=>Q (.int (-i)) σ | _=>False)=Q (.int (-i)) σ:=rfl
theorem me_ins {a:Addr}{k:Int}{v:V}{Q:V→Mem→Prop}:zvd m (.obj a) .insert [.int k,v] Q=(0≤k∧zr k∧∃vs,m a=some (.list vs)∧sma vs.length∧Q .none (upd m a (.list (vs.take k.toNat++v::vs.drop k.toNat)))):=rfl
theorem me_pop {a:Addr}{Q:V→Mem→Prop}:zvd m (.obj a) .pop [] Q=([]=([]:List V)∧∃vs v,m a=some (.list (vs++[v]))∧sma vs.length∧Q v (upd m a (.list vs))):=rfl
theorem me_join {a:Addr}{Q:V→Mem→Prop}:zvd m (.str []) .join [.obj a] Q=(([]:Tx)=[]∧∃xs:List Tx,m a=some (.list (xs.map V.str))∧xs.length≤500000∧xs.flatten.length≤500000∧Q (.str xs.flatten) m):=rfl
theorem me_ends {x y:Tx}{Q:V→Mem→Prop}:zvd m (.str x) .endswith [.str y] Q=Q (.bool (decide (y.length≤x.length∧x.drop (x.length-y.length)=y))) m:=rfl
theorem me_starts {x y:Tx}{Q:V→Mem→Prop}:zvd m (.str x) .startswith [.str y] Q=Q (.bool (decide (x.take y.length=y))) m:=rfl
theorem ok_ins {a:Addr}:zwk m (.obj a) .insert= ∃l,m a=some (.list l):=rfl
theorem ok_pop {a:Addr}:zwk m (.obj a) .pop= ∃l,m a=some (.list l):=rfl
theorem ok_join {x:Tx}:zwk m (.str x) .join=True:=rfl
theorem ok_ends {x:Tx}:zwk m (.str x) .endswith=True:=rfl
theorem ok_starts {x:Tx}:zwk m (.str x) .startswith=True:=rfl
theorem ssx {s:Sm}{ss:List Sm}{Q:Fl→St→Prop} (h: ∀Q':Fl→St→Prop,(∀σ',zk P ss Q σ'→Q' .next σ')→wpS P s Q' σ):zk P (s::ss) Q σ:=h _ fun _ q=>q
theorem za {s:Sm}{ss:List Sm}{Q:Fl→St→Prop} (h: ∀Q':Fl→St→Prop,(∀σ',zk P ss Q σ'→Q' .next σ')→(∀v σ',Q (.ret v) σ'→Q' (.ret v) σ')→wpS P s Q' σ):zk P (s::ss) Q σ:=h _ (fun _ q=>q) fun _ _ q=>q
theorem zc {Q:Fl→St→Prop} (h:Q .next σ):zk P [] Q σ:=h
theorem zf {c:Ex}{a b:List Sm}{Q:Fl→St→Prop} (h: ∀K:Bool→St→Prop,(∀σ',zk P a Q σ'→K true σ')→(∀σ',zk P b Q σ'→K false σ')→wpT P c (wpE P c) K σ):wpS P (.ife c a b) Q σ:=
 h _ (fun _ q=>q) fun _ q=>q
theorem zax {p:Prop} [Decidable p] {X Y:Prop} (hp:p) (x:X):if decide p=true then X else Y:=by rw[if_pos (Af hp)];exact x
theorem zcv {p:Prop} [Decidable p] {X Y:Prop} (hp: ¬p) (y:Y):if decide p=true then X else Y:=by rw[if_neg (by simpa using hp)];exact y
theorem zgv {p:Prop} [Decidable p] {X Y:Prop} (hp:p) (y:Y):if (!decide p)=true then X else Y:=by rw[if_neg (by simpa using hp)];exact y
theorem zj3 {p:Prop} [Decidable p] {X Y:Prop} (hp: ¬p) (x:X):if (!decide p)=true then X else Y:=by rw[if_pos (by simpa using hp)];exact x
end
theorem zag {k:Nat} (h:k≤1000000):zr (k:Int):=⟨Int.lt_of_lt_of_le (by decide) (Int.natCast_nonneg k),Int.lt_of_le_of_lt (Int.ofNat_le.mpr h) (by decide)⟩
end Mine.Internal
local macro_rules
 | `(tactic| walk_at $s)=>do
  let t:=s.getString
  if t !="D"&&t !="E" then Lean.Macro.throwUnsupported
  let l:=("r_lit r_var r_bin r_neg r_not r_list r_tup r_cmp r_band r_bor r_idx r_slc r_attr r_bi r_call r_me r_imeth r_ch2 r_es0 r_es1 r_ch1 r_bo1 r_bo2 r_tnot r_tband r_tbor r_tcmp r_tvar r_tcall r_tme r_tidx r_tbi r_ts0 r_ts1 r_tgs0 r_tgs1 r_sexpr r_sassign r_saug r_sdel r_sife r_swhl r_sfr r_sret r_ss0 r_ss1 tg_var tg_tup tg_idx tg_slc bin_add bin_sub bin_mul bin_div bin_mod bin_cat cmp_eqi cmp_eqs cmp_nei cmp_nes cmp_lt cmp_le cmp_gt cmp_ge tr_none tr_bool tr_int tr_str tr_tup ix_str ix_tup sl_ii sl_in sl_ni bi_lens bi_lent bi_min bi_rng bi_rng2 me_find me_find2 ok_find me_app ok_app me_ins me_pop me_join me_ends me_starts ok_ins ok_pop ok_join ok_ends ok_starts it_str it_rng neg_int aug_addi aug_adds aug_subi St.set St.setAll List.map_cons List.map_nil List.replicate List.cons_append List.nil_append List.getElem?_cons_succ List.getElem?_cons_zero List.set_cons_succ List.set_cons_zero List.length_cons List.length_nil dreduceIte retV"++(if t=="D" then " r_comp" else "")).splitOn " "
  let l:Lean.Syntax.TSepArray `Lean.Parser.Tactic.simpLemma ",":= .ofElems (l.toArray.map fun s=>⟨.node .none `Lean.Parser.Tactic.simpLemma #[Lean.mkNullNode,Lean.mkNullNode,Lean.mkIdent s.toName]⟩)
  `(tactic| dsimp only[$l,*])

namespace Mine.Internal
noncomputable def lcp:Tx→Tx→Nat
 | a::as,b::bs=>if a=b then lcp as bs+1 else 0
 | _,_=>0
theorem yZ: ∀(a b:Tx),lcp a b≤a.length∧lcp a b≤b.length
 | [],_=>by simp[lcp]
 | _::_,[]=>by simp[lcp]
 | a::as,b::bs=>by
  unfold lcp
  have:=yZ as bs
  split<;>simp<;>omega
theorem zah: ∀(k:Nat) (a b:Tx),k≤a.length→k≤b.length→(k≤lcp a b↔a.take k=b.take k)
 | 0,_,_,_,_=>by simp
 | k+1,[],_,h,_=>by simp at h
 | k+1,_::_,[],_,h=>by simp at h
 | k+1,a::as,b::bs,h1,h2=>by
  unfold lcp
  have ih:=zah k as bs (by simpa using h1) (by simpa using h2)
  by_cases e:a=b
  ·subst e;simp[ih]
  ·simp[e]
noncomputable def lcs (a b:Tx):Nat:=lcp a.reverse b.reverse
theorem zgk (a b:Tx):lcs a b≤a.length∧lcs a b≤b.length:=by
 have:=yZ a.reverse b.reverse
 simpa [lcs] using this
abbrev z8:=Int×Tx
abbrev Row:=List z8
noncomputable def cnt (k:Int) (r:Row):Nat:=(r.filter fun p=>decide (p.1=k)).length
noncomputable def cat (k:Int) (r:Row):Tx:=((r.filter fun p=>decide (p.1=k)).map (·.2)).flatten
noncomputable def phi (r:Row):Nat:=(r.map fun p=>p.2.length+1).sum
noncomputable def yL:Row→Tx→Row
 | [],x=>[(0,x)]
 | [(k,u)],x=>[(k,u++x)]
 | a::b::r,x=>a::yL (b::r) x
theorem zv (dn:Row) (k:Int) (u x:Tx):yL (dn++[(k,u)]) x=dn++[(k,u++x)]:=by
 induction dn with
 | nil=>rfl
 | cons a dn ih=>
  cases dn with
  | nil=>rfl
  | cons b dn=>exact congrArg (a::·) ih
theorem zcs:phi []=0:=rfl
theorem zd (p:z8) (r:Row):phi (p::r)=p.2.length+1+phi r:=by rfl
theorem pha (a b:Row):phi (a++b)=phi a+phi b:=by simp[phi]
theorem llp (r:Row):r.length≤phi r:=by
 induction r with
 | nil=>simp[phi]
 | cons p r ih=>rw[zd];simp;exact zj 5350178439252046053928 rfl ih
theorem zbt {r:Row}{p:z8} (h:p∈r):p.2.length<phi r:=by
 induction r with
 | nil=>cases h
 | cons q r ih=>
  rw[zd]
  rcases List.mem_cons.mp h with rfl | h
  ·exact ze 622775632441 rfl
  ·have:=ih h;exact zj 5224783602453643817 rfl this
theorem yV (k:Int) (a b:Row):cat k (a++b)=cat k a++cat k b:=by simp[cat]
theorem zc2 (k:Int) (a b:Row):cnt k (a++b)=cnt k a+cnt k b:=by simp[cnt]
theorem za7 (k:Int) (p:z8):cat k [p]=if p.1=k then p.2 else[]:=by
 unfold cat;by_cases h:p.1=k<;>simp[h]
theorem zix (k:Int) (p:z8):cnt k [p]=if p.1=k then 1 else 0:=by
 unfold cnt;by_cases h:p.1=k<;>simp[h]
theorem zdf (k:Int) (p:z8) (r:Row):cat k (p::r)=(if p.1=k then p.2 else[])++cat k r:=by
 rw[←za7,←yV];rfl
theorem zlm (k:Int) (p:z8) (r:Row):cnt k (p::r)=(if p.1=k then 1 else 0)+cnt k r:=by
 rw[←zix,←zc2];rfl
noncomputable def Run (r:Row):Prop:= ∀p∈r,p.1=-1∨p.1=1
theorem zvl {r:Row} (h:Run r):cnt (-1) r+cnt 1 r=r.length:=by
 induction r with
 | nil=>rfl
 | cons p r ih=>
  have:=ih fun q hq=>h q (Ao _ hq)
  simp only[zlm,zlm,List.length_cons]
  rcases h p (Aq) with e | e<;>rw[e]<;>simp<;>grind
theorem zt0 (r:Row):(cat (-1) r).length+(cat 1 r).length+r.length≤phi r:=by
 induction r with
 | nil=>trivial
 | cons p r ih=>
  rw[zdf,zdf,zd]
  simp only[Aa,List.length_cons]
  by_cases h1:p.1=-1
  ·rw[if_pos h1,if_neg (by lia)];simp;exact zd8 16658238410350718788483381266078540840 rfl ih
  ·rw[if_neg h1]
   by_cases h2:p.1=1
   ·rw[if_pos h2];simp;exact zd8 16658238410350728230622273620003562536 rfl ih
   ·rw[if_neg h2];simp;exact zd8 16267810947608123823485412305839144 rfl ih
structure Trim where
 done:Row
 td:Tx
 ti:Tx
 t:Tx
noncomputable def zX (q:Trim):Trim:=if lcp q.ti q.td=0 then q else⟨yL q.done (q.ti.take (lcp q.ti q.td)),q.td.drop (lcp q.ti q.td),q.ti.drop (lcp q.ti q.td),q.t⟩
noncomputable def zgy (q:Trim):Trim:=if lcs q.ti q.td=0 then q else⟨q.done,q.td.take (q.td.length-lcs q.ti q.td),q.ti.take (q.ti.length-lcs q.ti q.td),q.ti.drop (q.ti.length-lcs q.ti q.td)++q.t⟩
noncomputable def zgo (q:Trim):Trim:=zgy (zX q)
noncomputable def ops (td ti:Tx):Row:=(if td=[] then[] else[(-1,td)])++(if ti=[] then[] else[(1,ti)])
noncomputable def zdk (done run:Row) (t:Tx):Trim:=
 if cnt (-1) run≠0∧cnt 1 run≠0 then zgo ⟨done,cat (-1) run,cat 1 run,t⟩ else⟨done,cat (-1) run,cat 1 run,t⟩
noncomputable def zsc (q:Trim):Row:=q.done++ops q.td q.ti++[(0,q.t)]
noncomputable def zs (done run:Row) (t:Tx):Row:=
 if 1<run.length then zsc (zdk done run t)
 else if run=[]∧done≠[] then yL done t else done++run++[(0,t)]
noncomputable def zi:Row→Row→Row→Row
 | done,run,[]=>done++run
 | done,run,(k,t)::r=>if k=0 then zi (zs done run t) [] r else zi done (run++[(k,t)]) r
noncomputable def zbo (r:Row):Row:=zi [] [] (r++[(0,[])])
noncomputable def zfi:Row→Row
 | []=>[]
 | [p]=>if p.2=[] then[] else[p]
 | p::q::r=>p::zfi (q::r)
theorem zdl (dn:Row) (p:z8):zfi (dn++[p])=if p.2=[] then dn else dn++[p]:=by
 induction dn with
 | nil=>rfl
 | cons a dn ih=>
  cases dn with
  | nil=>show a::zfi [p]=_;rw[zfi];split<;>rfl
  | cons b dn=>
   show a::zfi (b::dn++[p])=_
   rw[ih];split<;>rfl
noncomputable def sgo:z8→Row→Row×Bool
 | a,b::c::C=>
  if a.1=0∧c.1=0 then
   if a.2.length≤b.2.length∧b.2.drop (b.2.length-a.2.length)=a.2 then((b.1,a.2++b.2.take (b.2.length-a.2.length))::(sgo (c.1,a.2++c.2) C).1,true)
   else if b.2.take c.2.length=c.2 then((a.1,a.2++c.2)::(sgo (b.1,b.2.drop c.2.length++c.2) C).1,true)
   else(a::(sgo b (c::C)).1,(sgo b (c::C)).2)
  else(a::(sgo b (c::C)).1,(sgo b (c::C)).2)
 | a,[b]=>([a,b],false)
 | a,[]=>([a],false)
noncomputable def zbh:Row→Row×Bool
 | []=>([],false)
 | a::r=>sgo a r
noncomputable def zA:Nat→Row→Row
 | 0,r=>r
 | n+1,r=>if (zbh (zfi (zbo r))).2 then zA n (zbh (zfi (zbo r))).1 else(zbh (zfi (zbo r))).1
noncomputable def Dn (done:Row):Prop:=done=[]∨∃dn u,done=dn++[((0:Int),u)]
theorem zgp {done:Row} (h:Dn done) (x:Tx): ∃dn u,yL done x=dn++[((0:Int),u)]:=by
 rcases h with rfl | ⟨dn,u,rfl⟩
 ·exact⟨[],x,rfl⟩
 ·exact⟨dn,u++x,zv _ _ _ _⟩
theorem zca {done run:Row} (h:Dn done) (t:Tx): ∃dn u,zs done run t=dn++[((0:Int),u)]:=by
 unfold zs
 split
 ·exact⟨_,_,rfl⟩
 ·split
  ·exact zgp h t
  ·exact⟨_,_,rfl⟩
theorem zfc {done:Row} (h:Dn done) (x:Tx):phi (yL done x)≤phi done+x.length+(if done=[] then 1 else 0):=by
 rcases h with rfl | ⟨dn,u,rfl⟩
 ·simp[yL,phi]
 ·rw[zv,pha,pha];simp[phi];exact zj 1289248713693791991632952 rfl
theorem z1d (td ti:Tx):phi (ops td ti)≤td.length+ti.length+2:=by
 unfold ops
 rw[pha]
 split<;>split<;>simp[phi]<;>grind
noncomputable def tw (q:Trim):Nat:=phi q.done+q.td.length+q.ti.length+q.t.length
theorem zuu (q:Trim) (h:Dn q.done):tw (zX q)≤tw q∧Dn (zX q).done:=by
 unfold zX
 split
 ·exact⟨Al _,h⟩
 ·rename_i hp
  have l:=yZ q.ti q.td
  have w:=zfc h (q.ti.take (lcp q.ti q.td))
  refine⟨?_,.inr (zgp h _)⟩
  unfold tw
  dsimp only
  rw[An] at w
  rw[Ap,Ap]
  split at w
  ·rw[Aw l.1] at w
   have key: ∀p d L a b t:Nat,p≤d+L+1→0<L→p+a+b+t≤d+(a+L)+(b+L)+t:=by intros;omega
   have k:=key _ _ _ (q.td.length-lcp q.ti q.td) (q.ti.length-lcp q.ti q.td) q.t.length w (Nat.pos_of_ne_zero hp)
   rwa [Ab l.2,Ab l.1] at k
  ·exact z9r 1273277073502167151931780372137418927274121767937010498108214346280 rfl w (Ab (ze 4952567644712 rfl l.2)) (Ab (ze 4952567644712 rfl l.1)) (Nat.min_le_left _ _)
theorem zoe (q:Trim):tw (zgy q)≤tw q∧(zgy q).done=q.done:=by
 unfold zgy
 split
 ·exact⟨Al _,rfl⟩
 ·have l:=zgk q.ti q.td
  refine⟨?_,rfl⟩
  unfold tw
  dsimp only
  rw[Aa,Ap,An,An,Aw (Nat.sub_le _ _),Aw (Nat.sub_le _ _)]
  generalize lcs q.ti q.td=k at *
  generalize q.ti.length=i at *
  generalize q.td.length=j at *
  rw[Nat.sub_sub_self (by first | exact l.1 | exact l.2)]
  obtain⟨u,rfl⟩: ∃u,i=k+u:=⟨i-k,by exact Ai (zj 5265838744531501611 rfl (Ab (ze 4952567644712 rfl l.1))) (zj 9804662326409303082 rfl (Ab (ze 4952567644712 rfl l.1)))⟩
  obtain⟨v,rfl⟩: ∃v,j=k+v:=⟨j-k,by exact Ai (zj 5265838744531501611 rfl (Ab (ze 4952567644712 rfl l.2))) (zj 9804662326409303082 rfl (Ab (ze 4952567644712 rfl l.2)))⟩
  rw[Av,Av]
  clear l
  exact zd8 2688178174203223237533191991796792 rfl
theorem z0c (q:Trim) (h:Dn q.done):tw (zgo q)≤tw q∧Dn (zgo q).done:=by
 obtain⟨a,b⟩:=zuu q h
 obtain⟨c,d⟩:=zoe (zX q)
 exact⟨ntr c a,by unfold zgo;rw[d];exact b⟩
theorem zq1 (q:Trim):phi (zsc q)≤tw q+3:=by
 unfold zsc tw
 rw[pha,pha]
 have:=z1d q.td q.ti
 simp only[zd,zcs];exact zd8 16905954145070207027518578368987145794880040 rfl this
theorem zg8 {done run:Row} (h:Dn done) (t:Tx):phi (zs done run t)≤phi done+phi run+(t.length+1):=by
 unfold zs
 split
 ·rename_i hr
  have c:=zt0 run
  have e:=zq1 (zdk done run t)
  have w:tw (zdk done run t)≤phi done+(cat (-1) run).length+(cat 1 run).length+t.length:=by
   unfold zdk
   split
   ·exact(z0c _ h).1
   ·exact Al _
  exact zwl 3393635930618746962439741728531027568203331327283193823957033 rfl hr c e w
 ·split
  ·rename_i hr
   have w:=zfc h t
   rw[if_neg hr.2] at w
   exact zT 5035294440279685312017465896 rfl w
  ·rw[pha,pha];simp[phi]
noncomputable def zwq (k:Int):Prop:=k=-1∨k=0∨k=1
noncomputable def zg (r:Row):Prop:= ∀q∈r,zwq q.1
theorem zg.nil:zg []:=fun _ h=>by cases h
theorem zg.cons {p:z8}{r:Row} (h:zwq p.1) (k:zg r):zg (p::r):=fun q hq=>by
 rcases List.mem_cons.mp hq with rfl | hq
 ·exact h
 ·exact k q hq
theorem zg.tail {p:z8}{r:Row} (k:zg (p::r)):zg r:=fun q hq=>k q (Ao _ hq)
theorem zg.head {p:z8}{r:Row} (k:zg (p::r)):zwq p.1:=k p Aq
theorem zg.append {a b:Row} (h:zg a) (k:zg b):zg (a++b):=fun q hq=>by
 rcases List.mem_append.mp hq with hq | hq
 ·exact h q hq
 ·exact k q hq
theorem zgl {done:Row} (h:zg done) (x:Tx):zg (yL done x):=by
 induction done with
 | nil=>exact .cons (.inr (.inl rfl)) .nil
 | cons a r ih=>
  cases r with
  | nil=>obtain⟨k,u⟩:=a;exact .cons (h.head) .nil
  | cons b r=>exact .cons h.head (ih h.tail)
theorem ztr (td ti:Tx):zg (ops td ti):=by
 unfold ops
 refine .append ?_ ?_
 ·split
  ·exact .nil
  ·exact .cons (.inl rfl) .nil
 ·split
  ·exact .nil
  ·exact .cons (.inr (.inr rfl)) .nil
theorem zrm {q:Trim} (h:zg q.done):zg (zgo q).done:=by
 unfold zgo
 rw[(zoe _).2]
 unfold zX
 split
 ·exact h
 ·exact zgl h _
theorem znt {done run:Row} (h:zg done) (hr:zg run) (t:Tx):zg (zs done run t):=by
 unfold zs
 split
 ·unfold zsc
  refine .append (.append ?_ (ztr _ _)) (.cons (.inr (.inl rfl)) .nil)
  unfold zdk
  split
  ·exact zrm h
  ·exact h
 ·split
  ·exact zgl h _
  ·exact(h.append hr).append (.cons (.inr (.inl rfl)) .nil)
theorem yQ: ∀(todo done run:Row),zg done→zg run→zg todo→zg (zi done run todo)
 | [],done,run,h,hr,_=>h.append hr
 | (k,t)::r,done,run,h,hr,ht=>by
  unfold zi
  split
  ·exact yQ r _ _ (znt h hr t) .nil ht.tail
  ·exact yQ r _ _ h (hr.append (.cons ht.head .nil)) ht.tail
theorem zcu: ∀(r:Row),zg r→zg (zfi r)
 | [],_=> .nil
 | [p],h=>by unfold zfi;split<;>first | exact .nil | exact h
 | p::q::r,h=> .cons h.head (zcu (q::r) h.tail)
theorem zbp: ∀(r:Row) (a:z8),zwq a.1→zg r→zg (sgo a r).1
 | [],a,h,_=> .cons h .nil
 | [b],a,h,hr=> .cons h hr
 | b::c::C,a,h,hr=>by
  have hb:=hr.head
  have hc:=hr.tail.head
  have hC:=hr.tail.tail
  have i1:=zbp (c::C) b hb hr.tail
  simp only[sgo]
  split
  ·split
   ·exact .cons hb (zbp C _ hc hC)
   ·split
    ·exact .cons h (zbp C _ hb hC)
    ·exact .cons h i1
  ·exact .cons h i1
theorem zdo {r:Row} (h:zg r):zg (zbh r).1:=by
 cases r with
 | nil=>exact .nil
 | cons a r=>exact zbp r a h.head h.tail
theorem zde: ∀(r:Row) (a:z8),phi (sgo a r).1+(if (sgo a r).2 then 1 else 0)≤phi (a::r)
 | [],a=>by simp[sgo]
 | [b],a=>by simp[sgo]
 | b::c::C,a=>by
  have i1:=zde (c::C) b
  simp only[sgo]
  split
  ·split
   ·rename_i h
    have i2:=zde C (c.1,a.2++c.2)
    have z: ∀x:Bool,(if x=true then 1 else 0)≤1:=fun x=>by cases x<;>trivial
    have:=z (sgo (c.1,a.2++c.2) C).2
    simp only[zd,Aa,An,if_true] at i2 ⊢
    have h1:=h.1
    rw[Aw (by exact zj 9575029436585002 rfl (Ab (ze 4952567644712 rfl h.1)))];exact zmi 217628134467537417613382512033027179524742841569646878831048922152 rfl i2 (Ab (ze 4952567644712 rfl h.1))
   ·split
    ·rename_i h
     have i2:=zde C (b.1,b.2.drop c.2.length++c.2)
     have he:c.2.length≤b.2.length:=by
      have:=congrArg List.length h
      rw[An] at this;exact zj 78438641144798183979 rfl this (Nat.min_le_right _ _)
     simp only[zd,Aa,Ap,if_true] at i2 ⊢
     exact zmi 217628134464472438223663832628568376157208103735635614705608299560 rfl i2 (Ab (ze 4952567644712 rfl he))
    ·simp only[zd] at i1 ⊢;exact zn7 25335249311206566874812104115864735320975711601823323176 rfl i1
  ·simp only[zd] at i1 ⊢;grind
theorem zgb (r:Row):phi (zbh r).1+(if (zbh r).2 then 1 else 0)≤phi r:=by
 cases r with
 | nil=>simp[zbh]
 | cons a r=>exact zde r a
theorem zfh (x:Tx): ∀(todo done run:Row),Dn done→∃done' run',Dn done'∧zi done run (todo++[(0,x)])=zs done' run' x∧phi done'+phi run'≤phi done+phi run+phi todo
 | [],done,run,hd=>⟨done,run,hd,by show zi done run [(0,x)]=_;rw[zi,if_pos rfl];simp[zi],by simp[zcs]⟩
 | (k,t)::r,done,run,hd=>by
  simp only[List.cons_append]
  by_cases hk:k=0
  ·obtain⟨d',r',a,b,c⟩:=zfh x r (zs done run t) [] (.inr (zca hd t))
   refine⟨d',r',a,by rw[zi,if_pos hk];exact b,?_⟩
   have:=zg8 (run:=run) hd t
   simp only[zcs] at c
   rw[zd];dsimp only;exact zmi 150049920078990660942748691129759505619810517281936424 rfl c this
  ·obtain⟨d',r',a,b,c⟩:=zfh x r done (run++[(k,t)]) hd
   refine⟨d',r',a,by rw[zi,if_neg hk];exact b,?_⟩
   rw[pha,zd,zcs] at c
   rw[zd];dsimp only at c ⊢;exact zn7 29304628927393002310500221461479117404905149480 rfl c
theorem ze1 (x:Tx): ∀(todo done run:Row),Dn done→∃dn u,zi done run (todo++[(0,x)])=dn++[((0:Int),u)]
 | [],done,run,h=>by
  obtain⟨dn,u,e⟩:=zca (run:=run) h x
  refine⟨dn,u,?_⟩
  show zi done run [(0,x)]=_
  rw[zi,if_pos rfl,e];simp[zi]
 | (k,t)::r,done,run,h=>by
  rw[List.cons_append]
  unfold zi
  split
  ·exact ze1 x r _ _ (.inr (zca h t))
  ·exact ze1 x r _ _ h
theorem zt8 {q:Trim} (hd:Dn q.done) (ht:q.t=[]):(zgo q).t=[]∨phi (zgo q).done+(zgo q).td.length+(zgo q).ti.length+(zgo q).t.length+1≤phi q.done+q.td.length+q.ti.length:=by
 have e:(zX q).t=[]:=by unfold zX;split<;>exact ht
 have w:=(zuu q hd).1
 unfold tw at w
 rw[e,ht] at w
 unfold zgo
 generalize zX q=p at *
 have l:=zgk p.ti p.td
 unfold zgy
 by_cases hz:lcs p.ti p.td=0
 ·rw[if_pos hz];exact .inl e
 ·rw[if_neg hz];right
  dsimp only
  rw[Aa,Ap,An,An,e,Aw (Nat.sub_le _ _),Aw (Nat.sub_le _ _)]
  refine ntr ?_ w
  generalize lcs p.ti p.td=k at *
  generalize p.ti.length=i at *
  generalize p.td.length=j at *
  rw[Nat.sub_sub_self (by first | exact l.1 | exact l.2)]
  obtain⟨u,rfl⟩: ∃u,i=k+u:=⟨i-k,by exact Ai (zj 5265838744531501611 rfl (Ab (ze 4952567644712 rfl l.1))) (zj 9804662326409303082 rfl (Ab (ze 4952567644712 rfl l.1)))⟩
  obtain⟨v,rfl⟩: ∃v,j=k+v:=⟨j-k,by exact Ai (zj 5265838744531501611 rfl (Ab (ze 4952567644712 rfl l.2))) (zj 9804662326409303082 rfl (Ab (ze 4952567644712 rfl l.2)))⟩
  rw[Av,Av]
  clear l w
  show phi p.done+v+u+(k+0)+1≤phi p.done+(k+v)+(k+u)+0
  lia
theorem zpa {done run:Row} (hd:Dn done):(∃dn,zs done run []=dn++[((0:Int),([]:Tx))])∨phi (zs done run [])≤phi done+phi run:=by
 unfold zs
 by_cases hr:1<run.length
 ·rw[if_pos hr]
  have c:=zt0 run
  unfold zdk
  by_cases hb:cnt (-1) run≠0∧cnt 1 run≠0
  ·rw[if_pos hb]
   rcases zt8 (q:=⟨done,cat (-1) run,cat 1 run,[]⟩) hd rfl with h | h
   ·left;exact⟨_,by unfold zsc;rw[h]⟩
   ·right
    have e:=zq1 (zgo ⟨done,cat (-1) run,cat 1 run,[]⟩)
    unfold tw at e
    dsimp only at h
    exact z3f 726432276796432218632763541106471326243355233979114487190962531580416322768937 rfl hr c h e
  ·rw[if_neg hb];left;exact⟨_,rfl⟩
 ·rw[if_neg hr]
  by_cases h:run=[]∧done≠[]
  ·rw[if_pos h]
   right
   have w:=zfc hd []
   rw[if_neg h.2] at w
   simp at w;exact zj 9610835903709736 rfl w
  ·rw[if_neg h];left;exact⟨_,rfl⟩
theorem zel (r:Row):phi (zfi (zbo r))≤phi r:=by
 unfold zbo
 obtain⟨d',r',a,b,c⟩:=zfh [] r [] [] (.inl rfl)
 rw[b]
 have hp:=zg8 (run:=r') a []
 simp only[zcs] at c
 rcases zpa (run:=r') a with ⟨dn,h⟩ | h
 ·rw[h,zdl,if_pos rfl]
  rw[h,pha,zd,zcs] at hp
  simp only[List.length_nil] at hp
  exact zT 98172764097837863019363767811870087663495681064 rfl c hp
 ·obtain⟨dn,u,e⟩:=zca (run:=r') a []
  rw[e] at h ⊢
  rw[zdl]
  rw[pha,zd,zcs] at h
  split
  ·exact zd8 93624844344780980363320683216043512435752 rfl c h
  ·rw[pha,zd,zcs];exact zd8 99385058617068115592686845656509067708191780377640 rfl c h
noncomputable def NE (r:Row):Prop:= ∀p∈r,p.2≠[]
noncomputable def ne (r:Row):Row:=r.filter fun p=>decide (p.2≠[])
theorem NE.nil:NE []:=fun _ h=>by cases h
theorem NE.cons {p:z8}{r:Row} (h:p.2≠[]) (k:NE r):NE (p::r):=fun q hq=>by
 rcases List.mem_cons.mp hq with rfl | hq
 ·exact h
 ·exact k q hq
theorem NE.tail {p:z8}{r:Row} (k:NE (p::r)):NE r:=fun q hq=>k q (Ao _ hq)
theorem NE.head {p:z8}{r:Row} (k:NE (p::r)):p.2≠[]:=k p Aq
theorem NE.append {a b:Row} (h:NE a) (k:NE b):NE (a++b):=fun q hq=>by
 rcases List.mem_append.mp hq with hq | hq
 ·exact h q hq
 ·exact k q hq
theorem z64 (r:Row):NE (ne r):=fun p hp=>of_decide_eq_true (List.mem_filter.mp hp).2
theorem zfg (p:z8) (r:Row):ne (p::r)=(if p.2=[] then[] else[p])++ne r:=by
 unfold ne;rw[List.filter_cons]
 by_cases h:p.2=[]<;>simp[h]
theorem z4g (o n:Tx) (r:Row):ne ((-1,o)::(1,n)::r)=ops o n++ne r:=by
 rw[zfg,zfg,←Ah];rfl
theorem zu4 (k o n:Tx) (r:Row):ne ((0,k)::(-1,o)::(1,n)::r)=ne [(0,k)]++(ops o n++ne r):=by
 rw[←z4g,zfg,zfg (0,k) []]
 simp[ne]
theorem Run.nil:Run []:=fun _ h=>by cases h
theorem Run.snoc {r:Row}{p:z8} (h:Run r) (k:p.1=-1∨p.1=1):Run (r++[p]):=fun q hq=>by
 rcases List.mem_append.mp hq with hq | hq
 ·exact h q hq
 ·rw[Bv] at hq;subst hq;exact k
theorem zib {k:Int} (h:zwq k) (h0:k≠0):k=-1∨k=1:=by
 rcases h with h | h | h
 ·exact .inl h
 ·exact absurd h h0
 ·exact .inr h
noncomputable def pre (o n:Tx):Tx:=n.take (lcp n o)
noncomputable def mo (o n:Tx):Tx:=o.drop (lcp n o)
noncomputable def mn (o n:Tx):Tx:=n.drop (lcp n o)
noncomputable def ms (o n:Tx):Nat:=lcs (mn o n) (mo o n)
noncomputable def ro (o n:Tx):Tx:=(mo o n).take ((mo o n).length-ms o n)
noncomputable def rn (o n:Tx):Tx:=(mn o n).take ((mn o n).length-ms o n)
noncomputable def su (o n:Tx):Tx:=(mn o n).drop ((mn o n).length-ms o n)
theorem zf2 (x:Tx):lcp [] x=0:=by simp[lcp]
theorem zf3 (x:Tx):lcp x []=0:=by cases x<;>simp[lcp]
structure NT (o n:Tx):Prop where
 p:pre o n=[]
 eo:ro o n=o
 en:rn o n=n
 s:su o n=[]
theorem z6d {o n:Tx} (h:lcp n o=0) (h2:lcs n o=0):NT o n:=by
 have a:mo o n=o:=by unfold mo;rw[h];rfl
 have b:mn o n=n:=by unfold mn;rw[h];rfl
 have c:ms o n=0:=by unfold ms;rw[a,b,h2]
 refine⟨by unfold pre;rw[h];rfl,by unfold ro;rw[a,c];simp,by unfold rn;rw[b,c];simp,by unfold su;rw[b,c];simp⟩
theorem zlw {o n:Tx} (h:o=[]∨n=[]):NT o n:=by
 rcases h with rfl | rfl
 ·exact z6d (zf3 _) (by unfold lcs;exact zf3 _)
 ·exact z6d (zf2 _) (by unfold lcs;exact zf2 _)
noncomputable def zco (done:Row) (p:Tx):Row:=if p=[] then done else yL done p
theorem zpj (done:Row) (o n t:Tx):zgo ⟨done,o,n,t⟩=⟨zco done (pre o n),ro o n,rn o n,su o n++t⟩:=by
 have e:zX ⟨done,o,n,t⟩=⟨zco done (pre o n),mo o n,mn o n,t⟩:=by
  unfold zX zco
  dsimp only
  have l:=yZ n o
  by_cases h:lcp n o=0
  ·rw[if_pos h,if_pos (by unfold pre;rw[h];rfl)]
   unfold mo mn;rw[h];rfl
  ·have:pre o n≠[]:=fun q=>h (by have:=congrArg List.length q;unfold pre at this;rw[An,List.length_nil] at this;grind)
   rw[if_neg h,if_neg this];rfl
 unfold zgo
 rw[e]
 unfold zgy
 dsimp only
 by_cases h:lcs (mn o n) (mo o n)=0
 ·rw[if_pos h]
  have c:ms o n=0:=h
  unfold ro rn su
  rw[c];simp
 ·rw[if_neg h];rfl
theorem zlx {k:Int}{r:Row} (h:cnt k r=0):cat k r=[]:=by
 induction r with
 | nil=>rfl
 | cons p r ih=>
  rw[zlm] at h
  rw[zdf,ih (by exact Ai (ze 40063459660842 rfl h) (zm 65592 rfl))]
  split at h
  ·grind
  ·rename_i q;rw[if_neg q];rfl
theorem zpt {k:Int}{r:Row} (h:cat k r≠[]):cnt k r≠0:=fun q=>h (zlx q)
theorem zku {done run:Row}{t:Tx} (hr:Run run) (hn:NE run) (h0:run≠[]):
  zs done run t=zco done (pre (cat (-1) run) (cat 1 run))++ops (ro (cat (-1) run) (cat 1 run)) (rn (cat (-1) run) (cat 1 run))++[(0,su (cat (-1) run) (cat 1 run)++t)]:=by
 unfold zs
 by_cases hl:1<run.length
 ·rw[if_pos hl]
  unfold zdk
  by_cases hb:cnt (-1) run≠0∧cnt 1 run≠0
  ·rw[if_pos hb,zpj];rfl
  ·rw[if_neg hb]
   have z:cat (-1) run=[]∨cat 1 run=[]:=by
    by_cases q:cnt (-1) run=0
    ·exact .inl (zlx q)
    ·by_cases q2:cnt 1 run=0
     ·exact .inr (zlx q2)
     ·exact absurd ⟨q,q2⟩ hb
   have n:=zlw z
   rw[n.p,n.eo,n.en,n.s];rfl
 ·rw[if_neg hl,if_neg (fun q=>h0 q.1)]
  match run,hl,hr,hn,h0 with
  | [],_,_,_,h0=>exact absurd rfl h0
  | _::_::_,hl,_,_,_=>exact absurd (by simp) hl
  | [p],_,hr,hn,_=>
   have hp:=hn p (Bv.mpr rfl)
   rcases hr p (Bv.mpr rfl) with e | e
   ·have c1:cat (-1) [p]=p.2:=by rw[za7,if_pos e]
    have c2:cat 1 [p]=[]:=by rw[za7,if_neg (by rw[e];decide)]
    rw[c1,c2]
    have n:=zlw (o:=p.2) (n:=[]) (.inr rfl)
    rw[n.p,n.eo,n.en,n.s]
    unfold ops zco
    rw[if_neg hp,←e];rfl
   ·have c1:cat (-1) [p]=[]:=by rw[za7,if_neg (by rw[e];decide)]
    have c2:cat 1 [p]=p.2:=by rw[za7,if_pos e]
    rw[c1,c2]
    have n:=zlw (o:=[]) (n:=p.2) (.inl rfl)
    rw[n.p,n.eo,n.en,n.s]
    unfold ops zco
    rw[if_neg hp,←e];rfl
abbrev Seg:=Tx×Tx×Tx
noncomputable def zac:Tx→Row→Row→Tx×List Seg
 | k,run,[]=>if run=[] then(k,[]) else(k,[(cat (-1) run,cat 1 run,[])])
 | k,run,(j,t)::r=>if j=0 then(if run=[] then zac (k++t) [] r else(k,(cat (-1) run,cat 1 run,(zac t [] r).1)::(zac t [] r).2)) else zac k (run++[(j,t)]) r
noncomputable def zE:Tx→List Seg→Row×Bool
 | k,[]=>([(0,k)],false)
 | k,(o,n,k')::l=>((0,k++pre o n)::(-1,ro o n)::(1,rn o n)::(zE (su o n++k') l).1,decide (ro o n=rn o n)||(zE (su o n++k') l).2)
theorem zhb (s:Tx): ∀(r run:Row) (k:Tx),zac (s++k) run r=(s++(zac k run r).1,(zac k run r).2)
 | [],run,k=>by unfold zac;split<;>rfl
 | (j,t)::r,run,k=>by
  unfold zac
  split
  ·split
   ·rw[Ah];exact zhb s r _ _
   ·rfl
  ·exact zhb s r _ _
noncomputable def Rel (done D:Row) (k:Tx):Prop:=(k=[]∧done=[]∧D=[])∨(k≠[]∧done=D++[((0:Int),k)])
theorem zvs {done D:Row}{k:Tx} (h:Rel done D k) (p:Tx):zco done p=D++ne [(0,k++p)]:=by
 unfold zco
 rw[zfg]
 rcases h with ⟨rfl,rfl,rfl⟩ | ⟨h,rfl⟩
 ·by_cases hp:p=[]
  ·subst hp;rfl
  ·rw[if_neg hp,if_neg (by simpa using hp)];rfl
 ·by_cases hp:p=[]
  ·subst hp;rw[if_pos rfl,if_neg (by simpa using h),Ag];rfl
  ·rw[if_neg hp,zv,if_neg (by simp[h])];rfl
theorem zyn {done D:Row}{k t:Tx} (h:Rel done D k) (ht:t≠[]):Rel (zs done [] t) D (k++t):=by
 right
 refine⟨by simp[ht],?_⟩
 rcases h with ⟨rfl,rfl,rfl⟩ | ⟨h,rfl⟩
 ·rfl
 ·unfold zs
  rw[if_neg (by simp),if_pos ⟨rfl,by simp⟩,zv]
theorem zdr: ∀(todo done D run:Row) (k:Tx),NE todo→zg todo→NE run→Run run→Rel done D k→
  zfi (zi done run (todo++[(0,[])]))=D++ne (zE (zac k run todo).1 (zac k run todo).2).1
 | [],done,D,run,k,_,_,hn,hr,hR=>by
  (dsimp only[List.nil_append];rw[zi,if_pos rfl])
  rw[show zi (zs done run []) [] []=zs done run []++[] from by rw[zi],Ag]
  unfold zac
  by_cases h0:run=[]
  ·subst h0
   rw[if_pos rfl]
   show _=D++ne [(0,k)]
   rw[zfg]
   rcases hR with ⟨rfl,rfl,rfl⟩ | ⟨h,rfl⟩
   ·rfl
   ·unfold zs
    rw[if_neg (by simp),if_pos ⟨rfl,by simp⟩,zv,Ag,zdl,if_neg h,if_neg h];rfl
  ·rw[if_neg h0,zku hr hn h0,zdl,zvs hR]
   unfold zE zE
   dsimp only
   rw[zu4]
   by_cases hs:su (cat (-1) run) (cat 1 run)=[]
   ·rw[if_pos (by simp[hs]),hs];simp[ne]
   ·rw[if_neg (by simp[hs])];simp[ne,hs]
 | (j,t)::r,done,D,run,k,hN,hK,hn,hr,hR=>by
  have ht:t≠[]:=hN.head
  (dsimp only[List.cons_append,zi];try with_reducible rfl)
  unfold zac
  by_cases hj:j=0
  ·rw[if_pos hj,if_pos hj]
   by_cases h0:run=[]
   ·subst h0
    rw[if_pos rfl]
    exact zdr r _ D [] _ hN.tail hK.tail .nil .nil (zyn hR ht)
   ·rw[if_neg h0,zku hr hn h0]
    have:=zdr r _ _ [] (su (cat (-1) run) (cat 1 run)++t) hN.tail hK.tail .nil .nil (Or.inr ⟨by simp[ht],rfl⟩:Rel (zco done (pre (cat (-1) run) (cat 1 run))++ops (ro (cat (-1) run) (cat 1 run)) (rn (cat (-1) run) (cat 1 run))++[(0,su (cat (-1) run) (cat 1 run)++t)]) _ _)
    rw[this,zhb,zvs hR]
    dsimp only
    conv=>rhs;unfold zE
    dsimp only
    rw[zu4]
    simp
  ·rw[if_neg hj,if_neg hj]
   exact zdr r _ D _ k hN.tail hK.tail (hn.append (.cons ht .nil)) (hr.snoc (zib hK.head hj)) hR
noncomputable def zef (r:Row):Row:=ne (zE (zac [] [] r).1 (zac [] [] r).2).1
noncomputable def fell (r:Row):Bool:=(zE (zac [] [] r).1 (zac [] [] r).2).2
theorem ze8 {r:Row} (h:NE r) (k:zg r):zfi (zbo r)=zef r:=
 zdr r [] [] [] [] h k .nil .nil (.inl ⟨rfl,rfl,rfl⟩)
noncomputable def side (k:Int):Row→Tx
 | []=>[]
 | p::r=>(if p.1=0∨p.1=k then p.2 else[])++side k r
noncomputable def zaf:Row→Nat
 | []=>0
 | p::r=>(if p.1=0 then 0 else p.2.length)+zaf r
theorem sda (k:Int): ∀(a b:Row),side k (a++b)=side k a++side k b
 | [],b=>rfl
 | p::a,b=>by(dsimp only[List.cons_append,side,side];rw[sda k a b,Ah])
theorem zdh: ∀(a b:Row),zaf (a++b)=zaf a+zaf b
 | [],b=>by simp[zaf]
 | p::a,b=>by(dsimp only[List.cons_append,zaf,zaf];rw[zdh a b]);exact Ai (zj 1230051292388267064 rfl) (zj 1230187082073285688 rfl)
theorem zcm (k:Int) (p:z8):side k [p]=if p.1=0∨p.1=k then p.2 else[]:=by
 simp only[side,side,Ag]
theorem z7w (o n:Tx):pre o n=o.take (lcp n o):=by
 have l:=yZ n o
 exact(zah _ n o l.1 l.2).mp (Al _)
theorem zic (x:Tx) (s:Nat):x.drop (x.length-s)=(x.reverse.take s).reverse:=by rw[List.take_reverse,As]
theorem zq9 (x:Tx) (s:Nat):x.take (x.length-s)=(x.reverse.drop s).reverse:=by rw[List.drop_reverse,As]
theorem su_o (o n:Tx):su o n=(mo o n).drop ((mo o n).length-ms o n):=by
 unfold su
 rw[zic,zic]
 have l:=zgk (mn o n) (mo o n)
 have:=(zah (ms o n) (mn o n).reverse (mo o n).reverse (by rw[Ak];exact l.1) (by rw[Ak];exact l.2)).mp (Al _)
 rw[this]
theorem zlj (o n:Tx):pre o n++ro o n++su o n=o:=by
 rw[z7w,su_o]
 unfold ro
 rw[Ah,Bb]
 exact Bb _ _
theorem ztm (o n:Tx):pre o n++rn o n++su o n=n:=by
 unfold pre rn su
 rw[Ah,Bb]
 exact Bb _ _
theorem zl5: ∀(a b:Tx),lcp (a.drop (lcp a b)) (b.drop (lcp a b))=0
 | [],_=>by rfl
 | _::_,[]=>by rfl
 | a::as,b::bs=>by
  by_cases h:a=b
  ·subst h
   rw[show lcp (a::as) (a::bs)=lcp as bs+1 by simp[lcp]]
   exact zl5 as bs
  ·rw[show lcp (a::as) (b::bs)=0 by simp[lcp,h]]
   simp[lcp,h]
theorem zss {a b:Tx} (h:lcp a b=0) (ha:a≠[]) (hb:b≠[]):b.head? ≠a.head? :=by
 cases a with
 | nil=>exact absurd rfl ha
 | cons x a=>cases b with
  | nil=>exact absurd rfl hb
  | cons y b=>
   intro e
   simp at e
   subst e
   simp[lcp] at h
theorem zm9 {x:Tx}{k:Nat} (h:x.take k≠[]):(x.take k).head? =x.head? :=by
 cases x with
 | nil=>simp at h
 | cons a x=>cases k with
  | zero=>simp at h
  | succ k=>rfl
theorem zty {o n:Tx} (h:ro o n≠[]) (h2:rn o n≠[]):(ro o n).head? ≠(rn o n).head? :=by
 unfold ro at h ⊢
 unfold rn at h2 ⊢
 rw[zm9 h,zm9 h2]
 refine zss (zl5 n o) ?_ ?_
 ·intro q;rw[show mn o n=[] from q] at h2;exact h2 (by simp)
 ·intro q;rw[show mo o n=[] from q] at h;exact h (by simp)
theorem zu9 {o n:Tx} (h:ro o n≠[]) (h2:rn o n≠[]):(ro o n).getLast? ≠(rn o n).getLast? :=by
 have e1:ro o n=((mo o n).reverse.drop (ms o n)).reverse:=zq9 _ _
 have e2:rn o n=((mn o n).reverse.drop (ms o n)).reverse:=zq9 _ _
 rw[e1] at h ⊢
 rw[e2] at h2 ⊢
 rw[List.getLast?_reverse,List.getLast?_reverse]
 exact zss (zl5 (mn o n).reverse (mo o n).reverse) (fun q=>h2 (by show(List.drop (ms o n) (mn o n).reverse).reverse=[];rw[show List.drop (ms o n) (mn o n).reverse=[] from q];rfl)) (fun q=>h (by show(List.drop (ms o n) (mo o n).reverse).reverse=[];rw[show List.drop (ms o n) (mo o n).reverse=[] from q];rfl))
theorem zyg {k:Int} (hk:k=-1∨k=1) {r:Row} (h:Run r):side k r=cat k r:=by
 induction r with
 | nil=>rfl
 | cons p r ih=>
  simp only[side,zdf,ih fun q hq=>h q (Ao _ hq)]
  have:p.1≠0:=by rcases h p Aq with e | e<;>rw[e]<;>decide
  simp[this]
theorem zkm (o n:Tx):side (-1) (ops o n)=o:=by
 unfold ops
 rw[sda]
 by_cases h:o=[]<;>by_cases h2:n=[]<;>simp[h,h2,side]
theorem zkv (o n:Tx):side 1 (ops o n)=n:=by
 unfold ops
 rw[sda]
 by_cases h:o=[]<;>by_cases h2:n=[]<;>simp[h,h2,side]
theorem zhj {done:Row} (h:Dn done) (k:Int) (x:Tx):side k (yL done x)=side k done++x:=by
 rcases h with rfl | ⟨dn,u,rfl⟩
 ·simp[yL,side]
 ·rw[zv,sda,sda,zcm,zcm];simp
theorem zow {done:Row} (h:Dn done) (k:Int) (x:Tx):side k (zco done x)=side k done++x:=by
 unfold zco
 split
 ·rename_i e;rw[e,Ag]
 ·exact zhj h k x
theorem zwc {done:Row} (h:Dn done) {k:Int} (hk:k=-1∨k=1) (o n t:Tx) (b:Prop) [Decidable b]:
  side k (zsc (if b then zgo ⟨done,o,n,t⟩ else⟨done,o,n,t⟩))=side k done++(if k=-1 then o else n)++t:=by
 have kept: ∀x:Tx,side k [((0:Int),x)]=x:=fun x=>by rw[zcm];exact if_pos (.inl rfl)
 unfold zsc
 rw[sda,sda,kept]
 have so:=zlj o n
 have sn:=ztm o n
 by_cases hb:b
 ·rw[if_pos hb,zpj]
  dsimp only
  rw[zow h]
  rcases hk with rfl | rfl
  ·rw[zkm,if_pos rfl]
   conv=>rhs;rw[←so]
   simp only[Ah]
  ·rw[zkv,if_neg (by decide)]
   conv=>rhs;rw[←sn]
   simp only[Ah]
 ·rw[if_neg hb]
  dsimp only
  rcases hk with rfl | rfl
  ·rw[zkm,if_pos rfl]
  ·rw[zkv,if_neg (by decide)]
theorem zoj {done run:Row} (h:Dn done) (hr:Run run) {k:Int} (hk:k=-1∨k=1) (t:Tx):side k (zs done run t)=side k done++side k run++t:=by
 unfold zs
 split
 ·unfold zdk
  rw[zwc h hk,zyg hk hr]
  rcases hk with rfl | rfl
  ·rfl
  ·rfl
 ·split
  ·rename_i q
   rw[zhj h,q.1];simp[side]
  ·rw[sda,sda,zcm];dsimp
theorem zea {k:Int} (hk:k=-1∨k=1): ∀(todo done run:Row),Dn done→Run run→zg todo→side k (zi done run todo)=side k done++side k run++side k todo
 | [],done,run,h,hr,_=>by simp only[zi,sda];simp[side]
 | (j,t)::r,done,run,h,hr,hK=>by
  simp only[zi]
  split
  ·rename_i e
   rw[zea hk r _ _ (.inr (zca h t)) .nil hK.tail,zoj h hr hk]
   simp[side,e]
  ·rename_i e
   rw[zea hk r _ _ h (hr.snoc (zib hK.head e)) hK.tail,sda,zcm,side];simp
theorem znp (k:Int): ∀r:Row,side k (zfi r)=side k r
 | []=>rfl
 | [p]=>by
  unfold zfi
  split
  ·rename_i e;rw[zcm,e];simp[side]
  ·rfl
 | p::q::r=>by
  show(if p.1=0∨p.1=k then p.2 else[])++side k (zfi (q::r))=(if p.1=0∨p.1=k then p.2 else[])++side k (q::r)
  rw[znp k (q::r)]
theorem zez {k:Int} (hk:k=-1∨k=1) {r:Row} (hK:zg r):side k (zfi (zbo r))=side k r:=by
 rw[znp]
 unfold zbo
 rw[zea hk _ _ _ (.inl rfl) .nil (hK.append (.cons (.inr (.inl rfl)) .nil)),sda,zcm];simp[side]
noncomputable def adj (R:z8→z8→Prop):Row→Prop
 | a::b::r=>R a b∧adj R (b::r)
 | _=>True
theorem zha {R:z8→z8→Prop}: ∀{A B:Row},adj R A→adj R B→(∀dn u,A=dn++[u]→∀b B',B=b::B'→R u b)→adj R (A++B)
 | [],B,_,hB,_=>hB
 | [a],B,_,hB,hJ=>by
  cases B with
  | nil=>trivial
  | cons b B=>exact⟨hJ [] a rfl b B rfl,hB⟩
 | a::b::A,B,hA,hB,hJ=>by
  refine⟨hA.1,?_⟩
  exact zha (A:=b::A) hA.2 hB fun dn u e=>hJ (a::dn) u (by rw[e];rfl)
theorem zid {R:z8→z8→Prop}: ∀{A B:Row},adj R (A++B)→adj R A
 | [],_,_=>trivial
 | [a],_,_=>trivial
 | a::b::A,B,h=>⟨h.1,zid (A:=b::A) (B:=B) h.2⟩
structure Good2 (x y:Tx):Prop where
 h:x.head? ≠y.head?
 l:x.getLast? ≠y.getLast?
noncomputable def gp (a b:z8):Prop:=a.1≠0→b.1≠0→a.1=-1∧b.1=1∧a.2≠[]∧b.2≠[]∧Good2 a.2 b.2
theorem zf9 {A:Row}{u:Tx} (h:adj gp A):adj gp (A++[((0:Int),u)]):=
 zha h trivial fun _ _ _ b B' e=>by cases e;exact fun _ q=>absurd rfl q
theorem zu3 {A B:Row} (hD:Dn A) (h:adj gp A) (hB:adj gp B):adj gp (A++B):=by
 refine zha h hB fun dn u e b B' _ q=>?_
 rcases hD with rfl | ⟨dn',v,rfl⟩
 ·cases dn<;>cases e
 ·obtain⟨_,e⟩:=List.append_inj' e rfl
  cases e
  exact absurd rfl q
theorem zrz {done:Row} (hD:Dn done) (h:adj gp done) (x:Tx):adj gp (zco done x)∧Dn (zco done x):=by
 unfold zco
 split
 ·exact⟨h,hD⟩
 ·refine⟨?_,.inr (zgp hD x)⟩
  rcases hD with rfl | ⟨dn,u,rfl⟩
  ·trivial
  ·rw[zv];exact zf9 (zid h)
theorem zvv {o n:Tx} (h:o≠[]→n≠[]→Good2 o n):adj gp (ops o n):=by
 unfold ops
 by_cases h1:o=[]
 ·rw[if_pos h1]
  split<;>trivial
 ·by_cases h2:n=[]
  ·rw[if_pos h2,if_neg h1];trivial
  ·rw[if_neg h1,if_neg h2]
   exact⟨fun _ _=>⟨rfl,rfl,h1,h2,h h1 h2⟩,trivial⟩
theorem zs2 (o n:Tx):ro o n≠[]→rn o n≠[]→Good2 (ro o n) (rn o n):=fun h h2=>⟨zty h h2,zu9 h h2⟩
theorem zk7 {done run:Row} (hD:Dn done) (h:adj gp done) (t:Tx):adj gp (zs done run t):=by
 unfold zs
 split
 ·unfold zdk
  by_cases hb:cnt (-1) run≠0∧cnt 1 run≠0
  ·rw[if_pos hb,zpj]
   obtain⟨a,b⟩:=zrz hD h (pre (cat (-1) run) (cat 1 run))
   exact zf9 (zu3 b a (zvv (zs2 _ _)))
  ·rw[if_neg hb]
   refine zf9 (zu3 hD h (zvv fun h1 h2=>absurd ⟨zpt h1,zpt h2⟩ hb))
 ·rename_i hl
  split
  ·rcases hD with rfl | ⟨dn,u,rfl⟩
   ·trivial
   ·rw[zv];exact zf9 (zid h)
  ·refine zf9 (zu3 hD h ?_)
   match run,hl with
   | [],_=>trivial
   | [_],_=>trivial
   | _::_::_,hl=>exact absurd (by simp) hl
theorem zfk (x:Tx): ∀(todo done run:Row),Dn done→adj gp done→adj gp (zi done run (todo++[(0,x)]))
 | [],done,run,hD,h=>by
  rw[List.nil_append,zi,if_pos rfl,zi,Ag]
  exact zk7 hD h _
 | (j,t)::r,done,run,hD,h=>by
  (dsimp only[List.cons_append,zi];try with_reducible rfl)
  split
  ·exact zfk x r _ _ (.inr (zca hD t)) (zk7 hD h t)
  ·exact zfk x r _ _ hD h
theorem zsw (r:Row):adj gp (zfi (zbo r)):=by
 unfold zbo
 have h:=zfk [] r [] [] (.inl rfl) trivial
 obtain⟨dn,u,e⟩:=ze1 [] r [] [] (.inl rfl)
 rw[e] at h ⊢
 rw[zdl]
 split
 ·exact zid h
 ·exact h
noncomputable def zx8 (b a:Tx):Prop:=a.length≤b.length∧b.drop (b.length-a.length)=a
noncomputable def zj1 (b c:Tx):Prop:=b.take c.length=c
noncomputable def sc (a b c:z8):Prop:=a.1=0∧c.1=0∧(zx8 b.2 a.2∨zj1 b.2 c.2)
theorem zxw {b a:Tx}:zx8 b a↔∃w,b=w++a:=by
 constructor
 ·rintro ⟨h,e⟩
  exact⟨b.take (b.length-a.length),by have k:=Bb (b.length-a.length) b;rw[e] at k;exact k.symm⟩
 ·rintro ⟨w,rfl⟩
  refine⟨by simp,?_⟩
  rw[Aa,Nat.add_sub_cancel]
  exact List.drop_left' rfl
theorem zr9 {b c:Tx}:zj1 b c↔∃w,b=c++w:=by
 constructor
 ·intro e
  exact⟨b.drop c.length,by have k:=Bb c.length b;rw[show b.take c.length=c from e] at k;exact k.symm⟩
 ·rintro ⟨w,rfl⟩
  unfold zj1
  exact List.take_left' rfl
theorem z9g {a b c:z8}{C:Row} (h0:a.1=0) (h1:c.1=0) (h:zx8 b.2 a.2):
  sgo a (b::c::C)=((b.1,a.2++b.2.take (b.2.length-a.2.length))::(sgo (c.1,a.2++c.2) C).1,true):=by
 rw[sgo,if_pos ⟨h0,h1⟩];exact if_pos h
theorem z9w {a b c:z8}{C:Row} (h0:a.1=0) (h1:c.1=0) (h: ¬zx8 b.2 a.2) (h2:zj1 b.2 c.2):
  sgo a (b::c::C)=((a.1,a.2++c.2)::(sgo (b.1,b.2.drop c.2.length++c.2) C).1,true):=by
 rw[sgo,if_pos ⟨h0,h1⟩];exact(if_neg h).trans (if_pos h2)
theorem z8t {a b c:z8}{C:Row} (h: ¬sc a b c):
  sgo a (b::c::C)=(a::(sgo b (c::C)).1,(sgo b (c::C)).2):=by
 rw[sgo]
 by_cases g:a.1=0∧c.1=0
 ·rw[if_pos g];exact(if_neg (fun q=>h ⟨g.1,g.2,.inl q⟩)).trans (if_neg (fun q=>h ⟨g.1,g.2,.inr q⟩))
 ·rw[if_neg g]
noncomputable def zkp:Row→Prop
 | a::b::c::C=> ¬sc a b c∧zkp (b::c::C)
 | _=>True
theorem zv3 {a:z8}{r:Row} (h:zkp (a::r)):zkp r:=by
 match r,h with
 | [],_=>trivial
 | [b],_=>trivial
 | b::c::C,h=>exact h.2
theorem zk5: ∀(r:Row) (a:z8),zkp (a::r)→sgo a r=(a::r,false)
 | [],a,_=>by simp[sgo]
 | [b],a,_=>by simp[sgo]
 | b::c::C,a,h=>by rw[z8t h.1,zk5 (c::C) b h.2]
theorem zjl: ∀(r:Row) (a:z8),¬zkp (a::r)→(sgo a r).2=true
 | [],a,h=>absurd trivial h
 | [b],a,h=>absurd trivial h
 | b::c::C,a,h=>by
  by_cases g:sc a b c
  ·obtain⟨h0,h1,h2⟩:=g
   by_cases hl:zx8 b.2 a.2
   ·rw[z9g h0 h1 hl]
   ·rcases h2 with h2 | h2
    ·exact absurd h2 hl
    ·rw[z9w h0 h1 hl h2]
  ·rw[z8t g]
   exact zjl (c::C) b fun q=>h ⟨g,q⟩
theorem zlb {r:Row} (h:zkp r):zbh r=(r,false):=by
 cases r with
 | nil=>rfl
 | cons a r=>exact zk5 r a h
theorem zjr {r:Row} (h: ¬zkp r):(zbh r).2=true:=by
 cases r with
 | nil=>exact absurd trivial h
 | cons a r=>exact zjl r a h
theorem zbw {M:z8→Row→Row×Bool→Prop} (h0: ∀a,M a [] ([a],false)) (h1: ∀a b,M a [b] ([a,b],false))
  (hl: ∀a b c C x,a.1=0→c.1=0→zx8 b.2 a.2→M (c.1,a.2++c.2) C x→M a (b::c::C) ((b.1,a.2++b.2.take (b.2.length-a.2.length))::x.1,true))
  (hr: ∀a b c C x,a.1=0→c.1=0→zj1 b.2 c.2→M (b.1,b.2.drop c.2.length++c.2) C x→M a (b::c::C) ((a.1,a.2++c.2)::x.1,true))
  (hn: ∀a b c C x,M b (c::C) x→M a (b::c::C) (a::x.1,x.2)): ∀(r:Row) (a:z8),M a r (sgo a r)
 | [],a=>by rw[show sgo a []=([a],false) by simp[sgo]];exact h0 a
 | [b],a=>by rw[show sgo a [b]=([a,b],false) by simp[sgo]];exact h1 a b
 | b::c::C,a=>by
  by_cases g:sc a b c
  ·obtain⟨g0,g1,g2⟩:=g
   by_cases q:zx8 b.2 a.2
   ·rw[z9g g0 g1 q]
    exact hl a b c C _ g0 g1 q (zbw h0 h1 hl hr hn C _)
   ·rcases g2 with g2 | g2
    ·exact absurd g2 q
    ·rw[z9w g0 g1 q g2]
     exact hr a b c C _ g0 g1 g2 (zbw h0 h1 hl hr hn C _)
  ·rw[z8t g]
   exact hn a b c C _ (zbw h0 h1 hl hr hn (c::C) b)
theorem znl {M:Row→Row×Bool→Prop} (h:M [] ([],false)) (k: ∀r a,M (a::r) (sgo a r)) (r:Row):M r (zbh r):=by
 cases r with
 | nil=>exact h
 | cons a r=>exact k r a
theorem zky (k:Int) (r:Row):side k (zbh r).1=side k r:=by
 refine znl (M:=fun r x=>side k x.1=side k r) rfl (zbw (M:=fun a r x=>side k x.1=side k (a::r)) (fun _=>rfl) (fun _ _=>rfl) ?_ ?_ ?_) r
 ·rintro ⟨ka,x⟩ ⟨j,y⟩ ⟨kc,z⟩ C X h0 h1 h ih
  dsimp only at h0 h1 h ih ⊢
  subst h0;subst h1
  obtain⟨w,rfl⟩:=zxw.mp h
  rw[side,ih]
  simp only[side]
  rw[Aa,Nat.add_sub_cancel,List.take_left' rfl]
  by_cases q:j=0∨j=k
  ·simp[q]
  ·simp[q]
 ·rintro ⟨ka,x⟩ ⟨j,y⟩ ⟨kc,z⟩ C X h0 h1 h ih
  dsimp only at h0 h1 h ih ⊢
  subst h0;subst h1
  obtain⟨w,rfl⟩:=zr9.mp h
  rw[side,ih]
  simp only[side]
  rw[List.drop_left' rfl]
  by_cases q:j=0∨j=k
  ·simp[q]
  ·simp[q]
 ·intro a b c C X ih
  show(if a.1=0∨a.1=k then a.2 else[])++side k X.1=(if a.1=0∨a.1=k then a.2 else[])++side k (b::c::C)
  rw[ih]
theorem zxj {r:Row} (hN:NE r):NE (zbh r).1:=by
 refine znl (M:=fun r x=>NE r→NE x.1) (fun h=>h) (zbw (M:=fun a r x=>NE (a::r)→NE x.1) (fun _ h=>h) (fun _ _ h=>h) ?_ ?_ ?_) r hN
 ·intro a b c C x h0 h1 h ih hN
  have hb:b.2≠[]:=hN.tail.head
  have ha:a.2≠[]:=hN.head
  exact .cons (by simp[ha]) (ih (.cons (by simp[ha]) hN.tail.tail.tail))
 ·intro a b c C x h0 h1 h ih hN
  have hc:c.2≠[]:=hN.tail.tail.head
  exact .cons (by simp[hc]) (ih (.cons (by simp[hc]) hN.tail.tail.tail))
 ·intro a b c C x ih hN
  exact .cons hN.head (ih hN.tail)
theorem zet {r:Row} (h:Run r):zaf r=(cat (-1) r).length+(cat 1 r).length:=by
 induction r with
 | nil=>rfl
 | cons p r ih=>
  simp only[zaf,zdf,zdf,ih fun q hq=>h q (Ao _ hq),Aa,Aa]
  rcases h p Aq with e | e<;>rw[e]<;>simp<;>grind
theorem zkl: ∀{A B:Row},zkp (A++B)→zkp B
 | [],_,h=>h
 | a::A,B,h=>zkl (A:=A) (zv3 h)
theorem zg5: ∀(n:Nat) (r:Row),zg r→phi r<n→zg (zA n r)∧∀k:Int,k=-1∨k=1→side k (zA n r)=side k r
 | 0,r,_,h=>absurd h (Nat.not_lt_zero _)
 | n+1,r,hK,h=>by
  have hM:=zel r
  have hk:zg (zfi (zbo r)):=zcu _ (yQ _ _ _ .nil .nil (hK.append (.cons (.inr (.inl rfl)) .nil)))
  have hs:=zgb (zfi (zbo r))
  simp only[zA]
  by_cases g:zkp (zfi (zbo r))
  ·rw[zlb g]
   exact⟨hk,fun k hk=>zez hk hK⟩
  ·have y:=zjr g
   rw[if_pos y]
   rw[if_pos y] at hs
   obtain⟨a,e⟩:=zg5 n (zbh (zfi (zbo r))).1 (zdo hk) (Ba hs (ntr hM (Nat.le_of_lt_succ h)))
   exact⟨a,fun k q=>by rw[e k q,zky,zez q hK]⟩
theorem zm7: ∀(n:Nat) (r:Row),zg r→phi r<n→zg (zA n r)∧adj gp (zA n r)∧zkp (zA n r)∧phi (zA n r)≤phi r∧∀k:Int,k=-1∨k=1→side k (zA n r)=side k r
 | 0,r,_,h=>absurd h (Nat.not_lt_zero _)
 | n+1,r,hK,h=>by
  have hM:=zel r
  have hk:zg (zfi (zbo r)):=zcu _ (yQ _ _ _ .nil .nil (hK.append (.cons (.inr (.inl rfl)) .nil)))
  have hs:=zgb (zfi (zbo r))
  simp only[zA]
  by_cases g:zkp (zfi (zbo r))
  ·rw[zlb g,if_neg (by simp)]
   exact⟨hk,zsw r,g,hM,fun k hk=>zez hk hK⟩
  ·have y:=zjr g
   rw[if_pos y]
   rw[if_pos y] at hs
   obtain⟨a,b,c,d,e⟩:=zm7 n (zbh (zfi (zbo r))).1 (zdo hk) (by exact zT 373041552924918690974281776103977 rfl h hM hs)
   exact⟨a,b,c,by exact zT 364297787688122670464289538600 rfl hM hs d,fun k q=>by rw[e k q,zky,zez q hK]⟩
theorem zl9: ∀(n:Nat) (r:Row),NE r→zg r→phi r<n→NE (zA n r)∧True∧(zkp (zef r)→zA n r=zef r)
 | 0,r,_,_,h=>absurd h (Nat.not_lt_zero _)
 | n+1,r,hN,hK,h=>by
  have hM:=zel r
  have hs:=zgb (zfi (zbo r))
  have hk:zg (zfi (zbo r)):=zcu _ (yQ _ _ _ .nil .nil (hK.append (.cons (.inr (.inl rfl)) .nil)))
  have e:=ze8 hN hK
  rw[e] at hM hs hk
  have hR:NE (zef r):=z64 _
  rw[zA,e]
  by_cases g:zkp (zef r)
  ·rw[zlb g]
   exact⟨hR,trivial,fun _=>rfl⟩
  ·have y:=zjr g
   rw[if_pos y]
   rw[if_pos y] at hs
   have hK':=zdo hk
   obtain⟨a,b,_⟩:=zl9 n (zbh (zef r)).1 (zxj hR) hK' (Ba hs (ntr hM (Nat.le_of_lt_succ h)))
   exact⟨a,trivial,fun q=>absurd q g⟩
inductive Ed:Nat→Tx→Tx→Prop
 | nil:Ed 0 [] []
 | eq {d:Nat} {a b:Tx} (c:Char):Ed d a b→Ed d (c::a) (c::b)
 | del {d:Nat} {a b:Tx} (c:Char):Ed d a b→Ed (d+1) (c::a) b
 | ins {d:Nat} {a b:Tx} (c:Char):Ed d a b→Ed (d+1) a (c::b)
theorem Ed.append {d e:Nat}{a b a' b':Tx} (h:Ed d a b) (k:Ed e a' b'):Ed (d+e) (a++a') (b++b'):=by
 induction h with
 | nil=>rw[Nat.zero_add];exact k
 | eq c _ ih=>exact .eq c ih
 | del c _ ih=>rw[Nat.add_right_comm];exact .del c ih
 | ins c _ ih=>rw[Nat.add_right_comm];exact .ins c ih
theorem Ed.rev {d:Nat}{a b:Tx} (h:Ed d a b):Ed d a.reverse b.reverse:=by
 induction h with
 | nil=>exact .nil
 | eq c _ ih=>rw[List.reverse_cons,List.reverse_cons];exact ih.append (.eq c .nil)
 | @del d a b c _ ih=>rw[List.reverse_cons];have:=ih.append (.del c .nil);rw[Ag] at this;exact this
 | @ins d a b c _ ih=>rw[List.reverse_cons];have:=ih.append (.ins c .nil);rw[Ag] at this;exact this
theorem Ed.bound {d:Nat}{a b:Tx} (h:Ed d a b):a.length≤b.length+d∧b.length≤a.length+d∧∃t,a.length+b.length=d+2 * t:=by
 induction h with
 | nil=>exact⟨Al _,Al _,0,rfl⟩
 | eq c _ ih=>
  obtain⟨h1,h2,t,h3⟩:=ih
  refine⟨?_,?_,t+1,?_⟩
  ·simp only[List.length_cons];exact zj 10313990852347433046377000 rfl h1
  ·simp only[List.length_cons];exact zj 10313990852347433046377000 rfl h2
  ·simp only[List.length_cons];exact Ai (zT 87169913192333933568614654769982084138 rfl h3) (zT 87168939652108043791570704972103291947 rfl h3)
 | del c _ ih=>
  obtain⟨h1,h2,t,h3⟩:=ih
  refine⟨?_,?_,t,?_⟩
  ·simp only[List.length_cons];exact zj 4917206794456948198212136 rfl h1
  ·simp only[List.length_cons];exact zj 4917201328173318058672680 rfl h2
  ·simp only[List.length_cons];exact Ai (zT 261242591875517636033140243871306794 rfl h3) (zT 260274834035994188483852261507732523 rfl h3)
 | ins c _ ih=>
  obtain⟨h1,h2,t,h3⟩:=ih
  refine⟨?_,?_,t,?_⟩
  ·simp only[List.length_cons];exact zj 4917201328173318058672680 rfl h1
  ·simp only[List.length_cons];exact zj 4917206794456948198212136 rfl h2
  ·simp only[List.length_cons];exact Ai (zT 261242591874919034576262350493979690 rfl h3) (zT 85126640500797788388218927834993707 rfl h3)
noncomputable def z50 (a:Char) (f:Tx→Nat):Tx→Nat
 | []=>f []+1
 | b::bs=>if a=b then f bs else min (f (b::bs)) (z50 a f bs)+1
noncomputable def zw:Tx→Tx→Nat
 | [],b=>b.length
 | a::as,b=>z50 a (zw as) b
theorem zoy (b:Tx):zw [] b=b.length:=rfl
theorem zo2 (a b:Char) (as bs:Tx):zw (a::as) (b::bs)=if a=b then zw as bs else min (zw as (b::bs)) (zw (a::as) bs)+1:=rfl
theorem zey: ∀a:Tx,zw a []=a.length
 | []=>rfl
 | a::as=>congrArg (·+1) (zey as)
theorem zz7: ∀a:Tx,Ed a.length a []
 | []=> .nil
 | c::a=> .del c (zz7 a)
theorem ztp: ∀a:Tx,Ed a.length [] a
 | []=> .nil
 | c::a=> .ins c (ztp a)
theorem zS: ∀a b:Tx,Ed (zw a b) a b
 | [],b=>ztp b
 | a::as,[]=>by rw[zey];exact zz7 (a::as)
 | a::as,b::bs=>by
  rw[zo2]
  by_cases e:a=b
  ·rw[if_pos e,e];exact .eq b (zS as bs)
  ·rw[if_neg e]
   rcases Nat.le_total (zw as (b::bs)) (zw (a::as) bs) with h | h
   ·rw[Aw h];exact .del a (zS as (b::bs))
   ·rw[Nat.min_eq_right h];exact .ins b (zS (a::as) bs)
theorem Ed.dropR {d:Nat}{a b:Tx} (h:Ed d a b): ∀(c:Char) (bs:Tx),b=c::bs→∃e,e≤d+1∧Ed e a bs:=by
 induction h with
 | nil=>intro c bs q;cases q
 | eq c h _=>intro c' bs q;cases q;exact⟨_,Al _,.del c h⟩
 | ins c h _=>intro c' bs q;cases q;exact⟨_,ntr (Nat.le_succ _) (Nat.le_succ _),h⟩
 | del c h ih=>
  intro c' bs q
  obtain⟨e,he,k⟩:=ih c' bs q
  exact⟨e+1,Be he,.del c k⟩
theorem Ed.swap {d:Nat}{a b:Tx} (h:Ed d a b):Ed d b a:=by
 induction h with
 | nil=>exact .nil
 | eq c _ ih=>exact .eq c ih
 | del c _ ih=>exact .ins c ih
 | ins c _ ih=>exact .del c ih
theorem Ed.dropL {d:Nat}{c:Char}{as b:Tx} (h:Ed d (c::as) b): ∃e,e≤d+1∧Ed e as b:=
 let ⟨e,he,k⟩:=h.swap.dropR c as rfl;⟨e,he,k.swap⟩
theorem Ed.diag {d:Nat}{x y:Tx} (h:Ed d x y): ∀{a b:Char}{as bs:Tx},x=a::as→y=b::bs→∃e,e≤d∧Ed e as bs:=by
 cases h with
 | nil=>intro _ _ _ _ q;cases q
 | eq c h=>intro _ _ _ _ q1 q2;cases q1;cases q2;exact⟨_,Al _,h⟩
 | del c h=>intro _ _ _ _ q1 q2;cases q1;exact h.dropR _ _ q2
 | ins c h=>intro _ _ _ _ q1 q2;cases q2;subst q1;exact h.dropL
theorem zaz: ∀(a b:Tx) {d:Nat},Ed d a b→zw a b≤d
 | [],b,d,h=>by have:=h.bound.2.1;rw[zoy];simpa using this
 | a::as,[],d,h=>by have:=h.bound.1;rw[zey];simpa using this
 | a::as,b::bs,d,h=>by
  rw[zo2]
  by_cases e:a=b
  ·rw[if_pos e]
   obtain⟨e,he,k⟩:=h.diag rfl rfl
   exact ntr (zaz as bs k) he
  ·rw[if_neg e]
   cases h with
   | eq c h=>exact absurd rfl e
   | del c h=>exact Be (ntr (Nat.min_le_left ..) (zaz as (b::bs) h))
   | ins c h=>exact Be (ntr (Nat.min_le_right ..) (zaz (a::as) bs h))
termination_by a b=>a.length+b.length
theorem zJ (a b:Tx):zw a.reverse b.reverse=zw a b:=by
 refine Ai (zaz _ _ (zS a b).rev) ?_
 have:=zaz _ _ (zS a.reverse b.reverse).rev
 rw[As,As] at this;exact this
theorem zju (a b:Tx):zw a b=zw b a:=Ai (zaz _ _ (zS b a).swap) (zaz _ _ (zS a b).swap)
theorem za6 (a b a' b':Tx):zw (a++a') (b++b')≤zw a b+zw a' b':=zaz _ _ ((zS a b).append (zS a' b'))
theorem zva (a b:Char) (as bs:Tx):zw as bs≤zw (a::as) (b::bs):=let ⟨_,he,k⟩:=(zS (a::as) (b::bs)).diag rfl rfl;ntr (zaz _ _ k) he
theorem zjk (a:Tx):zw a a=0:=by
 induction a with
 | nil=>rfl
 | cons c a ih=>rw[zo2,if_pos rfl];exact ih
theorem Ed.zero {d:Nat}{a b:Tx} (h:Ed d a b):d=0→a=b:=by
 induction h with
 | nil=>exact fun _=>rfl
 | eq c _ ih=>exact fun q=>by rw[ih q]
 | del=>exact fun q=>nomatch q
 | ins=>exact fun q=>nomatch q
theorem Ed.split {d:Nat}{a b:Tx} (h:Ed d a b): ∀e,e≤d→∃x y,x≤a.length∧y≤b.length∧Ed e (a.take x) (b.take y)∧Ed (d-e) (a.drop x) (b.drop y):=by
 induction h with
 | nil=>intro e he;cases Nat.le_zero.mp he;exact⟨0,0,Al _,Al _,.nil,.nil⟩
 | eq c h ih=>
  intro e he
  refine bc fun z9=>?_
  obtain⟨x,y,h1,h2,h3,h4⟩:=ih e he
  refine z9 ?_
  exact⟨x+1,y+1,Be h1,Be h2,.eq c h3,h4⟩
 | del c h ih=>
  intro e he
  cases e with
  | zero=>exact⟨0,0,Bq _,Bq _,.nil,.del c h⟩
  | succ e=>
   refine bc fun z9=>?_
   obtain⟨x,y,h1,h2,h3,h4⟩:=ih e (Nat.le_of_succ_le_succ he)
   refine z9 ?_
   exact⟨x+1,y,Be h1,h2,.del c h3,by rw[Nat.succ_sub_succ];exact h4⟩
 | ins c h ih=>
  intro e he
  cases e with
  | zero=>exact⟨0,0,Bq _,Bq _,.nil,.ins c h⟩
  | succ e=>
   refine bc fun z9=>?_
   obtain⟨x,y,h1,h2,h3,h4⟩:=ih e (Nat.le_of_succ_le_succ he)
   refine z9 ?_
   exact⟨x,y+1,h1,Be h2,.ins c h3,by rw[Nat.succ_sub_succ];exact h4⟩
noncomputable def EE (a b:Tx) (x y:Nat):Nat:=zw (a.take x) (b.take y)+(x-a.length)+(y-b.length)
noncomputable def RR (a b:Tx) (x y:Nat):Nat:=zw (a.drop x) (b.drop y)
theorem zaw {a:Tx}{x:Nat} (h:x<a.length):a.take (x+1)=a.take x++[a[x]]:=by rw[List.take_add_one,Ay h];rfl
theorem zhm (c:Char):zw [c] []=1:=zey [c]
theorem zqe (a b:Tx) (x y:Nat):EE a b (x+1) y≤EE a b x y+1:=by
 unfold EE
 by_cases h:x<a.length
 ·have:=za6 (a.take x) (b.take y) [a[x]] []
  rw[←zaw h,Ag,zhm] at this
  rw[Bz h,Bz (Ax h)]
  clear h
  exact zj 5154785129929004933401279070760 rfl this
 ·rw[Bd (Nat.le_succ_of_le (Az h):a.length≤x+1),Bd (Az h),Nat.succ_sub (Az h)]
  clear h
  exact zj 614539490069592617821240 rfl
theorem zo6 (a b:Tx) (x y:Nat):EE a b x y=EE b a y x:=by unfold EE;rw[zju];exact Ai (zj 658094139711202360 rfl) (zj 658094139711202360 rfl)
theorem z21 (a b:Tx) (x y:Nat):EE a b x (y+1)≤EE a b x y+1:=by rw[zo6,zo6 a b x y];exact zqe b a y x
theorem zw6 {a b:Tx}{x y:Nat} (h1:x<a.length) (h2:y<b.length) (e:a[x]=b[y]):EE a b (x+1) (y+1)≤EE a b x y:=by
 unfold EE
 have:=za6 (a.take x) (b.take y) [a[x]] [b[y]]
 rw[←zaw h1,←zaw h2,e,zjk] at this
 rw[Bz h1,Bz (Ax h1),Bz h2,Bz (Ax h2)]
 exact this
theorem zlr (x n:Nat):min x n+(x-n)=x:=by
 rcases Nat.le_total x n with h | h
 ·rw[Aw h,Bz h];rfl
 ·rw[Nat.min_eq_right h,Nat.add_sub_cancel' h]
theorem zqg (a b:Tx) (x y:Nat): ∃t,x+y=EE a b x y+2 * t:=by
 obtain⟨_,_,t,h⟩:=(zS (a.take x) (b.take y)).bound
 rw[An,An] at h
 refine⟨t,?_⟩
 unfold EE
 have p:=zlr x a.length
 have q:=zlr y b.length
 generalize zw (a.take x) (b.take y)=D at *
 generalize min x a.length=i at *
 generalize min y b.length=j at *
 generalize x-a.length=u at *
 generalize y-b.length=v at *
 exact Ai (zwl 19278601283674576827048671004165613121052057339282592810 rfl h p q) (zwl 43923111776394531867098133244234790156923849817265804331 rfl h p q)
theorem zfr {a b:Tx}{x y:Nat} (h1:x≤a.length) (h2:y≤b.length):EE a b x y=zw (a.take x) (b.take y):=by unfold EE;rw[Bz h1,Bz h2];rfl
theorem zg9 (a b:Tx) (x y:Nat):x≤y+EE a b x y∧y≤x+EE a b x y:=by
 obtain⟨h1,h2,_⟩:=(zS (a.take x) (b.take y)).bound
 rw[An,An] at h1 h2
 unfold EE
 have p:=zlr x a.length
 have q:=zlr y b.length
 generalize zw (a.take x) (b.take y)=D at *
 generalize min x a.length=i at *
 generalize min y b.length=j at *
 generalize x-a.length=u at *
 generalize y-b.length=v at *
 constructor
 ·exact zmi 1840206988433998670291057942660657852589933096 rfl h1 p q
 ·exact zmi 2194231313148952624842808532845119231819907624 rfl h2 p q
theorem z47 (a b:Tx):EE a b a.length b.length=zw a b:=by rw[zfr (Al _) (Al _),List.take_length,List.take_length]
theorem zpk {a b:Tx}{x y:Nat} (h1:a.length<x) (h2:y≤b.length):zw a b+x+y≤EE a b x y+a.length+b.length:=by
 have h:=za6 a (b.take y) [] (b.drop y)
 rw[Ag,Bb] at h
 have e:zw [] (b.drop y)=b.length-y:=Ap
 rw[e] at h
 unfold EE
 rw[Bd (Ax h1)]
 exact z9r 43922126548520057534845897936448562479964543925822816808 rfl h (Ab (ze 4952567644713 rfl h1)) (Ab (ze 4952567644712 rfl h2))
theorem zs1 {a b:Tx}{x y:Nat} (h1:x≤a.length) (h2:b.length<y):zw a b+x+y≤EE a b x y+a.length+b.length:=by
 have:=zpk (a:=b) (b:=a) h2 h1
 rw[zju,zo6] at this;exact zn7 22146171676210509286945905120496362536 rfl this
theorem zs3 {a b:Tx}{x y:Nat} (h1:a.length<x) (h2:b.length<y):zw a b+2≤EE a b x y:=by
 unfold EE
 rw[Bd (Ax h1),Bd (Ax h2)];exact zmi 15075689183563529448874361660059506726106141622825 rfl h1 h2 (Ab (ze 4952567644713 rfl h1)) (Ab (ze 4952567644713 rfl h2))
theorem tri {a b:Tx}{x y:Nat} (h1:x≤a.length) (h2:y≤b.length):zw a b≤EE a b x y+RR a b x y:=by
 have:=za6 (a.take x) (b.take y) (a.drop x) (b.drop y)
 rw[Bb,Bb] at this
 rw[zfr h1 h2];exact this
theorem zuo {a b:Tx}{x y:Nat} (h:x<a.length):RR a b x y≤RR a b (x+1) y+1:=by
 unfold RR
 have:=za6 [a[x]] [] (a.drop (x+1)) (b.drop y)
 rw[zhm] at this
 rw[Bw h]
 exact ntr this (Nat.le_of_eq (Nat.add_comm ..))
theorem zti (a b:Tx) (x y:Nat):RR a b x y=RR b a y x:=zju _ _
theorem z7r {a b:Tx}{x y:Nat} (h:y<b.length):RR a b x y≤RR a b x (y+1)+1:=by rw[zti,zti a b x];exact zuo h
theorem z01 {a b:Tx}{x y:Nat} (h1:x<a.length) (h2:y<b.length) (e:a[x]=b[y]):RR a b x y≤RR a b (x+1) (y+1):=by
 unfold RR
 have:=za6 [a[x]] [b[y]] (a.drop (x+1)) (b.drop (y+1))
 rw[e,zjk,Nat.zero_add] at this
 rw[Bw h1,Bw h2,e]
 exact this
theorem z53 (a b:Tx) {x y:Nat} (h1:x<a.length) (h2:y<b.length):RR a b (x+1) (y+1)≤RR a b x y:=by
 unfold RR
 rw[Bw h1,Bw h2]
 exact zva _ _ _ _
theorem zup (a b:Tx) {x y:Nat}: ∀t:Nat,x+t≤a.length→y+t≤b.length→RR a b (x+t) (y+t)≤RR a b x y
 | 0,_,_=>Al _
 | t+1,h1,h2=>ntr (z53 a b (x:=x+t) (y:=y+t) (by trivial) (by trivial)) (zup a b t (by exact Ax ‹_›) (by exact zj 10076579480013890393128 rfl h2))
theorem zpu {a b:Tx}{x y:Nat} (h1:x≤a.length) (h2:y≤b.length):a.length+y≤b.length+x+RR a b x y∧b.length+x≤a.length+y+RR a b x y:=by
 obtain⟨h3,h4,_⟩:=(zS (a.drop x) (b.drop y)).bound
 rw[Ap,Ap] at h3 h4
 unfold RR
 generalize zw (a.drop x) (b.drop y)=D at *
 obtain⟨u,hu⟩: ∃u,a.length=x+u:=⟨_,(Nat.add_sub_cancel' h1).symm⟩
 obtain⟨v,hv⟩: ∃v,b.length=y+v:=⟨_,(Nat.add_sub_cancel' h2).symm⟩
 rw[hu,hv,Av,Av] at h3 h4
 rw[hu,hv]
 clear hu hv h1 h2
 constructor
 ·exact zd8 10899182336477965870402481291816 rfl h3
 ·exact zd8 10899182336477965870402481291816 rfl h4
theorem zxp {d:Nat}{c e:Char}{u v:Tx} (k:Ed d (c::u) (e::v)):(c=e∧∃d',d'≤d∧Ed d' u v)∨(∃d',d=d'+1∧Ed d' u (e::v))∨(∃d',d=d'+1∧Ed d' (c::u) v):=by
 cases k with
 | eq _ k=>exact .inl ⟨rfl,_,Al _,k⟩
 | del _ k=>exact .inr (.inl ⟨_,rfl,k⟩)
 | ins _ k=>exact .inr (.inr ⟨_,rfl,k⟩)
theorem z3t {a b:Tx}: ∀{x y:Nat},x≤a.length→y≤b.length→(x=0∧y=0)∨
  (∃x' y',x=x'+1∧y=y'+1∧∃(h1:x'<a.length) (h2:y'<b.length),a[x']=b[y']∧EE a b x' y'≤EE a b x y)∨(∃x',x=x'+1∧EE a b x' y+1≤EE a b x y)∨(∃y',y=y'+1∧EE a b x y'+1≤EE a b x y)
 | 0,0,_,_=> .inl ⟨rfl,rfl⟩
 | 0,y+1,h1,h2=> .inr (.inr (.inr ⟨y,rfl,by
   simp only[zfr h1 h2,zfr h1 (Nat.le_of_succ_le h2),List.take_zero]
   simp only[zoy,zoy,An,An];lia⟩))
 | x+1,0,h1,h2=> .inr (.inr (.inl ⟨x,rfl,by
   simp only[zfr h1 h2,zfr (Nat.le_of_succ_le h1) h2,List.take_zero,zey,zey,An,An];lia⟩))
 | x+1,y+1,h1,h2=>by
  have k:=(zS (a.take (x+1)) (b.take (y+1))).rev
  rw[←zfr h1 h2,zaw h1,zaw h2,List.reverse_append,List.reverse_append] at k
  replace k:Ed _ (a[x]::(a.take x).reverse) (b[y]::(b.take y).reverse):=k
  rcases zxp k with ⟨e,d',hd,k⟩ | ⟨d',hd,k⟩ | ⟨d',hd,k⟩
  ·refine .inr (.inl ⟨x,y,rfl,rfl,h1,h2,e,?_⟩)
   have:=zaz _ _ k
   rw[zJ] at this
   rw[zfr (Ax h1) (Ax h2)]
   exact ntr this hd
  ·refine .inr (.inr (.inl ⟨x,rfl,?_⟩))
   have:=zaz _ _ k.rev
   rw[List.reverse_cons,As,As,←zaw h2] at this
   rw[hd,zfr (Ax h1) h2]
   exact Be this
  ·refine .inr (.inr (.inr ⟨y,rfl,?_⟩))
   have:=zaz _ _ k.rev
   rw[List.reverse_cons,As,As,←zaw h1] at this
   rw[hd,zfr h1 (Ax h2)]
   exact Be this
theorem mid {a b:Tx}{e:Nat} (h:e≤zw a b): ∃x y,x≤a.length∧y≤b.length∧EE a b x y≤e∧RR a b x y≤zw a b-e:=by
 refine bc fun z9=>?_
 obtain⟨x,y,h1,h2,h3,h4⟩:=(zS a b).split e h
 refine z9 ?_
 exact⟨x,y,h1,h2,by rw[zfr h1 h2];exact zaz _ _ h3,zaz _ _ h4⟩
theorem zzt {a b:Tx}{x y:Nat} (h1:x≤a.length) (h2:y≤b.length):EE a.reverse b.reverse x y=RR a b (a.length-x) (b.length-y):=by
 rw[zfr (by rw[Ak];exact h1) (by rw[Ak];exact h2)]
 unfold RR
 rw[←zJ,List.reverse_take,List.reverse_take,As,As,Ak,Ak]
theorem z58 {a b:Tx}{x y:Nat} (h1:x≤a.length) (h2:y≤b.length):RR a.reverse b.reverse x y=EE a b (a.length-x) (b.length-y):=by
 rw[zfr (Nat.sub_le ..) (Nat.sub_le ..)]
 unfold RR
 rw[List.drop_reverse,List.drop_reverse,zJ]
noncomputable def Gd (a b:Tx) (d:Nat) (k v:Int):Prop:= ∃x y:Nat,v=x∧k=(x:Int)-y∧EE a b x y≤d
theorem Gd.mono {a b:Tx}{d e:Nat}{k v:Int} (h:Gd a b d k v) (q:d≤e):Gd a b e k v:=let ⟨x,y,h1,h2,h3⟩:=h;⟨x,y,h1,h2,ntr h3 q⟩
theorem Gd.less {a b:Tx}{d:Nat}{k v:Int} (h:Gd a b (d+1) k v) (q:(k-d)%2=0):Gd a b d k v:=by
 obtain⟨x,y,h1,h2,h3⟩:=h
 obtain⟨t,ht⟩:=zqg a b x y
 exact⟨x,y,h1,h2,by grind⟩
noncomputable def Snd (a b:Tx) (d:Nat) (p:Int) (f:Int→Int):Prop:= ∀k,f k=-1∨Gd a b d k (f k)∨(k=1∧(d=0∨(d=1∧p≤1)))
noncomputable def Fu (a b:Tx) (d:Nat) (f:Int→Int):Prop:= ∀x y:Nat,x≤a.length→y≤b.length→EE a b x y≤d→d+RR a b x y≤zw a b→(x:Int)≤f ((x:Int)-y)
noncomputable def up (f:Int→Int) (k v:Int):Int→Int:=fun j=>if j=k then v else f j
theorem zjq (f:Int→Int) (k v:Int):up f k v k=v:=if_pos rfl
theorem zr8 (f:Int→Int) {k j:Int} (v:Int) (h:j≠k):up f k v j=f j:=if_neg h
noncomputable def pick (d:Nat) (k:Int) (f:Int→Int):Int:=if k=-(d:Int)∨(k≠d∧f (k-1)<f (k+1)) then f (k+1) else f (k-1)+1
structure Snake (a b:Tx) (x y:Nat) (x1 y1:Nat):Prop where
 same:(x1:Int)-y1=(x:Int)-y
 le:x≤x1
 cost:EE a b x1 y1≤EE a b x y
 stop: ∀(h1:x1<a.length) (h2:y1<b.length),a[x1]≠b[y1]
theorem zv6 {a b:Tx}{d:Nat}{k:Int}{f:Int→Int} (hk:(k-(d+1:Nat))%2=0) (h1:k≠-(d+1:Nat)→f (k-1)=-1∨Gd a b (d+1) (k-1) (f (k-1))) (h2:k≠(d+1:Nat)→f (k+1)=-1∨Gd a b (d+1) (k+1) (f (k+1)))
  (a1:k=-(d+1:Nat)→f (k+1)≠-1) (a2:k=(d+1:Nat)→f (k-1)≠-1) (a3:f (k-1)≠-1∨f (k+1)≠-1):
  ∃x y:Nat,pick (d+1) k f=x∧k=(x:Int)-y∧EE a b x y≤d+1∧(k≠-(d+1:Nat)→f (k-1)+1≤x)∧(k≠(d+1:Nat)→f (k+1)≤x):=by
 have up1:Gd a b (d+1) (k+1) (f (k+1))→∃x y:Nat,f (k+1)=x∧k=(x:Int)-y∧EE a b x y≤d+1:=fun g=>by
  refine bc fun z9=>?_
  obtain⟨x,y,e1,e2,e3⟩:=g.less (by grind)
  refine z9 ?_
  exact⟨x,y+1,e1,by exact Ad (yR 19988081808267712662731756578 rfl e2) (yR 2632036967722445634980083235 rfl e2),ntr (z21 a b x y) (Be e3)⟩
 have up2:Gd a b (d+1) (k-1) (f (k-1))→∃x y:Nat,f (k-1)+1=x∧k=(x:Int)-y∧EE a b x y≤d+1:=fun g=>by
  refine bc fun z9=>?_
  obtain⟨x,y,e1,e2,e3⟩:=g.less (by lia)
  refine z9 ?_
  exact⟨x+1,y,by exact Ad (zbr 295540000168730362402 rfl e1) (zbr 295510447941875146275 rfl e1),by exact Ad (yR 24468684377863604954889983522 rfl e2) (yR 2667041675297413547807536675 rfl e2),ntr (zqe a b x y) (Be e3)⟩
 have nn1: ∀{j:Int},f j=-1∨Gd a b (d+1) j (f j)→-1≤f j:=fun q=>by
  rcases q with q | ⟨x,_,e,_⟩<;>grind
 unfold pick
 by_cases c1:k=-((d+1:Nat):Int)
 ·rw[if_pos (.inl c1)]
  refine bc fun z9=>?_
  obtain⟨x,y,e1,e2,e3⟩:=up1 ((h2 (by(clear hk;omega))).resolve_left (a1 c1))
  refine z9 ?_
  exact⟨x,y,e1,e2,e3,fun q=>absurd c1 q,fun _=>by exact zbr 66008279613986 rfl e1⟩
 ·by_cases c2:k=((d+1:Nat):Int)
  ·rw[if_neg (by rintro (q | q);exact c1 q;exact q.1 c2)]
   refine bc fun z9=>?_
   obtain⟨x,y,e1,e2,e3⟩:=up2 ((h1 c1).resolve_left (a2 c2))
   refine z9 ?_
   exact⟨x,y,e1,e2,e3,fun _=>by exact zbr 69463875795829134370 rfl e1,fun q=>absurd c2 q⟩
  ·have n1:=nn1 (h1 c1)
   have n2:=nn1 (h2 c2)
   by_cases c3:f (k-1)<f (k+1)
   ·rw[if_pos (.inr ⟨c2,c3⟩)]
    refine bc fun z9=>?_
    obtain⟨x,y,e1,e2,e3⟩:=up1 ((h2 c2).resolve_left (by(clear hk h1 h2 a1 a2 c1 c2 n2;omega)))
    refine z9 ?_
    exact⟨x,y,e1,e2,e3,fun _=>by exact z71 569048070519436807307809 rfl c3 e1,fun _=>by exact zbr 66008279613986 rfl e1⟩
   ·rw[if_neg (by rintro (q | q);exact c1 q;exact c3 q.2)]
    refine bc fun z9=>?_
    obtain⟨x,y,e1,e2,e3⟩:=up2 ((h1 c1).resolve_left (by rcases a3 with q | q;exact q;grind))
    refine z9 ?_
    exact⟨x,y,e1,e2,e3,fun _=>by exact zbr 69463875795829134370 rfl e1,fun _=>by exact z71 567006804445399129588260 rfl c3 e1⟩
theorem z6q {a b:Tx}{e x y:Nat}{f:Int→Int}{x1:Nat} (hf:Fu a b e f) (hx:x+1≤a.length) (hy:y≤b.length) (c:EE a b x y+1≤EE a b (x+1) y) (he:EE a b (x+1) y≤e+1) (hr:e+1+RR a b (x+1) y≤zw a b)
  (h:(x:Int)+1-y≠-((e+1:Nat):Int)→f ((x:Int)-y)+1≤x1):x+1≤x1:=by
 have hR:=zuo (b:=b) (y:=y) hx
 have c':=Nat.le_of_succ_le_succ (ntr c he)
 have q:=hf x y (Nat.le_of_succ_le hx) hy c' (by exact zT 87190983939215686375780735034408 rfl hr hR)
 have hb:=(zg9 a b x y).2
 have:=h (by(clear hx;lia))
 exact yR 2804731771948837256762498592 rfl q this
theorem z63 {a b:Tx}{e x y:Nat}{f:Int→Int}{x1:Nat} (hf:Fu a b e f) (hx:x≤a.length) (hy:y+1≤b.length) (c:EE a b x y+1≤EE a b x (y+1)) (he:EE a b x (y+1)≤e+1) (hr:e+1+RR a b x (y+1)≤zw a b)
  (h:(x:Int)-(y+1:Nat)≠((e+1:Nat):Int)→f ((x:Int)-y)≤x1):x≤x1:=by
 have hR:=z7r (a:=a) (x:=x) hy
 have c':=Nat.le_of_succ_le_succ (ntr c he)
 have q:=hf x y hx (Nat.le_of_succ_le hy) c' (by exact zT 87190983939215686375780735034408 rfl hr hR)
 have hb:=(zg9 a b x y).1
 have:=h (by grind)
 exact yR 2658889538684704005664 rfl q this
theorem z6c {a b:Tx}{x0 y0 x1 y1 x y:Nat} (hs:Snake a b x0 y0 x1 y1) (hk:(x:Int)-y=(x0:Int)-y0) (g1:x<a.length) (g2:y<b.length) (e:a[x]=b[y]) (ih:x≤x1):x+1≤x1:=by
 rcases Nat.lt_or_eq_of_le ih with q | rfl
 ·exact q
 ·have:=hs.same
  have q2:y=y1:=Ai (zd8 2824017669364544979226860131778803332643 rfl hk this) (zd8 787640623210959434351751914559952188962 rfl hk this)
  subst q2
  exact absurd e (hs.stop g1 g2)
theorem z74 {a b:Tx}{d:Nat}{k:Int}{f:Int→Int}{x0 y0 x1 y1:Nat} (hs:Snake a b x0 y0 x1 y1) (hk:k=(x0:Int)-y0)
  (hf: ∀e,d=e+1→Fu a b e f) (h1:0<d→k≠-(d:Int)→f (k-1)+1≤x0) (h2:0<d→k≠d→f (k+1)≤x0) (x:Nat):
  ∀y:Nat,x≤a.length→y≤b.length→(x:Int)-y=k→EE a b x y≤d→d+RR a b x y≤zw a b→x≤x1:=by
 have h01:(x0:Int)≤x1:=Int.ofNat_le.mpr hs.le
 have up: ∀{x y:Nat},x≤a.length→y+1≤b.length→(x:Int)-(y+1:Nat)=k→EE a b x y+1≤EE a b x (y+1)→EE a b x (y+1)≤d→d+RR a b x (y+1)≤zw a b→x≤x1:=fun {x y} hx hy hxy c he hr=>by
  cases d with
  | zero=>exact absurd (ntr c he) (Nat.not_succ_le_zero _)
  | succ e=>
   refine z63 (hf e rfl) hx hy c he hr fun q=>Int.le_trans ?_ h01
   have:=h2 (Br _) (hxy▸q)
   rwa [show k+1=(x:Int)-y by exact Ad (yR 24453964948598006460217754147 rfl hxy) (yR 19831405713913812872727688738 rfl hxy)] at this
 induction x with
 | zero=>exact fun _ _ _ _ _ _=>Bq _
 | succ x ih=>
  intro y hx hy hxy he hr
  rcases z3t hx hy with ⟨q,_⟩ | ⟨x',y',q,rfl,g1,g2,e,c⟩ | ⟨x',q,c⟩ | ⟨y',rfl,c⟩
  ·cases q
  ·cases q
   exact z6c hs (by rw[←hk,←hxy];exact Ad (ze 2382766745651509261872 rfl) (ze 2915139790448206640688 rfl)) g1 g2 e (ih y' (Ax g1) (Ax g2) (by exact Ad (yR 2666926688937112777922016802 rfl hxy) (yR 24453962907359783585222165027 rfl hxy)) (ntr c he) (ntr (Nat.add_le_add_left (z01 g1 g2 e) d) hr))
  ·cases q
   cases d with
   | zero=>exact absurd (ntr c he) (Nat.not_succ_le_zero _)
   | succ e=>
    refine z6q (hf e rfl) hx hy c he hr fun q=>Int.le_trans ?_ h01
    have:=h1 (Br _) (by(clear hk hx;lia))
    rwa [show k-1=(x:Int)-y by exact Ad (yR 24453964948886244795518485027 rfl hxy) (yR 19833823565553042193257952802 rfl hxy)] at this
  ·exact up hx hy hxy c he hr
structure Pre (a b:Tx) (d:Nat) (f:Int→Int) (ks ke:Nat):Prop where
 ev:ks%2=0∧ke%2=0
 ti: ∀k:Int,(k-d)%2=0→(d:Int)-ke<k→k≤d→(zw a b:Int)+(a.length-b.length)+2≤d+k
 bi: ∀k:Int,(k-d)%2=0→k < -(d:Int)+ks→-(d:Int)≤k→(zw a b:Int)-(a.length-b.length)+2≤d-k
 z:d=0→f 1=0∧(∀k,k≠1→f k=-1)
 lo:d≤1→ks=0∧ke=0
 s: ∀e,d=e+1→(∀k,f k=-1∨Gd a b e k (f k)∨(k=1∧e=0))∧Fu a b e f∧∃lo hi:Int,lo≤hi∧(lo-e)%2=0∧(hi-e)%2=0∧lo-1≤-(d:Int)+ks∧(d:Int)-ke≤hi+1∧
  (ks=0→lo=-(e:Int))∧(ke=0→hi=e)∧∀k,lo≤k→k≤hi→(k-e)%2=0→f k≠-1
structure Sw (a b:Tx) (d:Nat) (f0:Int→Int) (ks0 ke0:Nat) (p:Int) (f:Int→Int) (ks ke:Nat):Prop where
 par:(p-d)%2=0
 lo:-(d:Int)+ks0≤p
 old: ∀k,(p≤k∨(k-d)%2≠0)→f k=f0 k
 snd:Snd a b d p f
 cmp: ∀k,-(d:Int)+ks0≤k→k<p→(k-d)%2=0→f k≠-1
 fu: ∀x y:Nat,x≤a.length→y≤b.length→EE a b x y≤d→d+RR a b x y≤zw a b→-(d:Int)+ks0≤(x:Int)-y→(x:Int)-y<p→((x:Int)-y-d)%2=0→(x:Int)≤f ((x:Int)-y)
 top: ∃r:Nat,ke=ke0+2 * r∧(0<r→(zw a b:Int)+(a.length-b.length)+2≤d+(p-2 * r))
 bot: ∃r:Nat,ks=ks0+2 * r∧-(d:Int)+ks0+2 * r≤p∧(0<r→(zw a b:Int)-(a.length-b.length)+2≤d-(-(d:Int)+ks0+2 * r-2))
theorem Pre.snd0 {a b:Tx}{d:Nat}{f:Int→Int}{ks ke:Nat} (P:Pre a b d f ks ke):Snd a b d (-(d:Int)+ks) f:=fun k=>by
 cases d with
 | zero=>
  obtain⟨h1,h2⟩:=P.z rfl
  by_cases q:k=1
  ·exact .inr (.inr ⟨q,.inl rfl⟩)
  ·exact .inl (h2 k q)
 | succ e=>
  rcases (P.s e rfl).1 k with q | q | ⟨q,rfl⟩
  ·exact .inl q
  ·exact .inr (.inl (q.mono (Nat.le_succ e)))
  ·exact .inr (.inr ⟨q,.inr ⟨rfl,by have:=P.lo (Al _);exact zm 2365524718012950643242 rfl this.1⟩⟩)
theorem Sw.start {a b:Tx}{d:Nat}{f:Int→Int}{ks ke:Nat} (P:Pre a b d f ks ke):Sw a b d f ks ke (-(d:Int)+ks) f ks ke where
 par:=by have:=P.ev;grind
 lo:=Int.le_refl _
 old:=fun _ _=>rfl
 snd:=P.snd0
 cmp:=fun k h1 h2=>absurd h2 (Bk.mpr h1)
 fu:=fun x y _ _ _ _ h1 h2 _=>absurd h2 (Bk.mpr h1)
 top:=⟨0,rfl,fun h=>absurd h (Cd _)⟩
 bot:=⟨0,rfl,by exact ze 186569865410149512848432 rfl,fun h=>absurd h (Cd _)⟩
theorem Sw.pick {a b:Tx}{d:Nat}{f0 f:Int→Int}{ks0 ke0 ks ke:Nat}{p:Int} (P:Pre a b d f0 ks0 ke0) (S:Sw a b d f0 ks0 ke0 p f ks ke) (hp:p≤(d:Int)-ke0):
  ∃x y:Nat,Mine.Internal.pick d p f=x∧p=(x:Int)-y∧EE a b x y≤d∧(0<d→p≠-(d:Int)→f0 (p-1)+1≤x)∧(0<d→p≠d→f0 (p+1)≤x):=by
 have hpar:=S.par
 have hlo:=S.lo
 have o1:f (p+1)=f0 (p+1):=S.old _ (.inl (by exact zrv 537526832 rfl))
 have o2:f (p-1)=f0 (p-1):=S.old _ (.inr (by(clear hp hlo o1;omega)))
 cases d with
 | zero=>
  have:=P.lo (Bq _)
  have hp0:p=0:=Ad (zbr 307871312708128 rfl hp) (zbr 288441517247554592 rfl hlo)
  subst hp0
  refine⟨0,0,?_,rfl,?_,fun h=>absurd h (Cd _),fun h=>absurd h (Cd _)⟩
  ·unfold Mine.Internal.pick
   rw[if_pos (.inl rfl),o1];exact(P.z rfl).1
  ·rw[zfr (Bq _) (Bq _)];exact Nat.le_of_eq (zjk [])
 | succ e=>
  refine bc fun z9=>?_
  obtain⟨q1,q2,lo,hi,g1,g2,g3,g4,g5,g6,g7,g8⟩:=P.s e rfl
  refine z9 ?_
  have gd: ∀j,(j=p-1∨j=p+1)→f0 j=-1∨Gd a b (e+1) j (f0 j):=fun j hj=>by
   rcases q1 j with q | q | ⟨q,rfl⟩
   ·exact .inl q
   ·exact .inr (q.mono (Nat.le_succ e))
   ·have:=P.lo (Al _)
    exfalso;(clear o1 o2 g1 hp hlo g2 g3 g4 g5 g6 g7 this;omega)
  have:=zv6 (a:=a) (b:=b) (d:=e) (k:=p) (f:=f) hpar (fun _=>by rw[o2];exact gd _ (.inl rfl)) (fun _=>by rw[o1];exact gd _ (.inr rfl))
   (fun h=>by rw[o1];exact g8 _ (by exact zuj 11164080596882422169180234262535350931678240 rfl hlo g4) (by have:=g6 (by exact Ai (yR 11547659636155226315996562973728 rfl hlo h) (zm 65592 rfl));exact z7k 1505941143619815763227638748267741728 rfl g1 h this) (by(clear o1 o2 hp hlo g1 g2 g3 g4 g5 g6 g7 h;lia)))
   (fun h=>by rw[o2];exact g8 _ (by have:=g7 (by exact Ai (yR 180430081871860799641105400352 rfl hp h) (zm 65592 rfl));exact z7k 21121615965522805767492472058479136 rfl g1 h this) (by exact zuj 197365616099994904563628024995286678700576 rfl hp g5) (by lia))
   (by
    rw[o1,o2]
    by_cases c:lo≤p-1
    ·exact .inl (g8 _ c (by exact zuj 197365616099994904563628024995286678700576 rfl hp g5) (by lia))
    ·exact .inr (g8 _ (by exact zuj 11164080596882422169180234262535350931678240 rfl hlo g4) (by(clear o1 o2 hp hlo g2 g4 g5 g6 g7;omega)) (by grind)))
  refine bc fun z9=>?_
  obtain⟨x,y,e1,e2,e3,e4,e5⟩:=this
  refine z9 ?_
  rw[o1] at e5
  rw[o2] at e4
  exact⟨x,y,e1,e2,e3,fun _=>e4,fun _=>e5⟩
noncomputable def ke' (a:Tx) (x1 ke:Nat):Nat:=if a.length<x1 then ke+2 else ke
noncomputable def ks' (a b:Tx) (x1 y1 ks:Nat):Nat:=if a.length<x1 then ks else if b.length<y1 then ks+2 else ks
theorem Sw.turn {a b:Tx}{d:Nat}{f0 f:Int→Int}{ks0 ke0 ks ke:Nat}{p:Int}{x y x1 y1:Nat} (P:Pre a b d f0 ks0 ke0) (hD:2 * d≤zw a b+1) (S:Sw a b d f0 ks0 ke0 p f ks ke)
  (e2:p=(x:Int)-y) (e3:EE a b x y≤d) (e4:0<d→p≠-(d:Int)→f0 (p-1)+1≤x) (e5:0<d→p≠d→f0 (p+1)≤x) (hs:Snake a b x y x1 y1):
  Sw a b d f0 ks0 ke0 (p+2) (up f p x1) (ks' a b x1 y1 ks) (ke' a x1 ke) where
 par:=by have:=S.par;(clear e2;grind)
 lo:=by have:=S.lo;exact yR 2477402896462062375768941600 rfl this
 old:=fun k h=>by
  have hpar:=S.par
  have:k≠p:=by(clear hD e3 e4 e5;lia)
  rw[zr8 _ _ this];exact S.old k (by(clear hD e2 e3 e4 e5 hpar this;lia))
 snd:=fun k=>by
  by_cases q:k=p
  ·subst q
   rw[zjq]
   exact .inr (.inl ⟨x1,y1,rfl,by have:=hs.same;exact Ad (z7j 2202690463239954970122130690744856019490 rfl e2 this) (z7j 102279111839875982514860801733314016803 rfl e2 this),ntr hs.cost e3⟩)
  ·rw[zr8 _ _ q]
   rcases S.snd k with h | h | ⟨rfl,h⟩
   ·exact .inl h
   ·exact .inr (.inl h)
   ·refine .inr (.inr ⟨rfl,?_⟩)
    have hpar:=S.par
    (clear hD e2 e3 e4 e5;grind)
 cmp:=fun k h1 h2 h3=>by
  by_cases q:k=p
  ·subst q;rw[zjq];grind
  ·rw[zr8 _ _ q]
   have hpar:=S.par
   exact S.cmp k h1 (by(clear hD e2 e3 e4 e5 h1;grind)) h3
 fu:=fun u v h1 h2 h3 h4 h5 h6 h7=>by
  by_cases q:(u:Int)-v=p
  ·rw[q,zjq]
   exact Int.ofNat_le.mpr (z74 hs e2 (fun e he=>(P.s e he).2.1) e4 e5 u v h1 h2 q h3 h4)
  ·rw[zr8 _ _ q]
   have hpar:=S.par
   exact S.fu u v h1 h2 h3 h4 h5 (by(clear hD e2 e3 e4 e5 h1 h2 h3 h4 h5;grind)) h7
 top:=by
  refine bc fun z9=>?_
  obtain⟨r,h1,h2⟩:=S.top
  refine z9 ?_
  unfold ke'
  split
  ·rename_i c
   refine⟨r+1,by exact Ai (zj 80564333245858715563331289642 rfl h1) (zj 159791589068064185193475347499 rfl h1),fun _=>?_⟩
   by_cases q:0<r
   ·have:=h2 q;exact z9s 106194684616592901544315286006403542598652907109951059182199840 rfl this
   ·have hc:=hs.cost
    have hsame:=hs.same
    have:y1≤b.length:=by
     rcases Nat.lt_or_ge b.length y1 with z | z
     ·have:=zs3 (a:=a) (b:=b) c z;exact(zT 130459395593825341524820638526679080 rfl hD e3 hc this).elim
     ·exact z
    have:=zpk (a:=a) (b:=b) c this
    exact z8w 41301376506465670197209972954111585328172020627173449898991070524076030607744077720619155318866228280462591437895203 rfl e2 e3 c q hc hsame this
  ·exact⟨r,h1,fun q=>by have:=h2 q;exact z9s 425520375327330673682234225354363487328217870732077639902240 rfl this⟩
 bot:=by
  refine bc fun z9=>?_
  obtain⟨r,h1,h2,h3⟩:=S.bot
  refine z9 ?_
  unfold ks'
  split
  ·exact⟨r,h1,by exact zbb 2723943698889653781031583956387881755680 rfl h2,h3⟩
  ·split
   ·rename_i c1 c2
    refine⟨r+1,by exact Ai (zj 80564333245858715563331289642 rfl h1) (zj 159791589068064185193475347499 rfl h1),by exact zbb 2789305375770406249943284107960308616602656 rfl h2,fun _=>?_⟩
    have hc:=hs.cost
    have hsame:=hs.same
    have:=zs1 (a:=a) (b:=b) (Az c1) c2
    exact z7v 5838340966454961253020087265359347076702113984324894251796116047100715450829194567877406909271112877593169723420748374587959372913771042 rfl e2 e3 h2 c2 hc hsame this
   ·exact⟨r,h1,by exact zbb 2723943698889653781031583956387881755680 rfl h2,h3⟩
theorem Pre.within {a b:Tx}{d:Nat}{f:Int→Int}{ks ke:Nat} (P:Pre a b d f ks ke) {x y:Nat} (h1:x≤a.length) (h2:y≤b.length) (h3:EE a b x y≤d) (h4:d+RR a b x y≤zw a b) (h5:((x:Int)-y-d)%2=0):
  -(d:Int)+ks≤(x:Int)-y∧(x:Int)-y≤(d:Int)-ke:=by
 obtain⟨g1,g2⟩:=zg9 a b x y
 obtain⟨g3,g4⟩:=zpu h1 h2
 constructor
 ·rcases Int.lt_or_le ((x:Int)-y) (-(d:Int)+ks) with q | q
  ·have:=P.bi _ h5 q (by exact zT 354552276760808802712545722920 rfl h3 g2);exact(zmi 50769530041015024636335722666768252809784260970419240 rfl h4 g3 this).elim
  ·exact q
 ·rcases Int.lt_or_le ((d:Int)-ke) ((x:Int)-y) with q | q
  ·have:=P.ti _ h5 q (by exact zT 24511920007341661166559101480 rfl h3 g1);exact(zmi 74691388838056930851197615265450390244835811884799016 rfl h4 g4 this).elim
  ·exact q
theorem Pre.some {a b:Tx}{d:Nat}{f:Int→Int}{ks ke:Nat} (P:Pre a b d f ks ke) (hd:d≤zw a b):-(d:Int)+ks≤(d:Int)-ke:=by
 obtain⟨x,y,h1,h2,h3,h4⟩:=mid hd
 obtain⟨t,ht⟩:=zqg a b x y
 have h5:=tri h1 h2
 have:=P.within h1 h2 h3 (by exact zT 120935456244064318399250984 rfl h4 (Ab (ze 4952567644712 rfl hd))) (by(clear h1 h2;lia))
 exact zd8 792177802832753026680866159765476640624494095361056 rfl this.1 this.2
theorem Sw.all {a b:Tx}{d:Nat}{f0 f:Int→Int}{ks0 ke0 ks ke:Nat}{p:Int} (P:Pre a b d f0 ks0 ke0) (S:Sw a b d f0 ks0 ke0 p f ks ke) (hp:(d:Int)-ke0<p):Fu a b d f:=fun x y h1 h2 h3 h4=>by
 by_cases q:((x:Int)-y-d)%2=0
 ·obtain⟨w1,w2⟩:=P.within h1 h2 h3 h4 q
  exact S.fu x y h1 h2 h3 h4 w1 (Int.lt_of_le_of_lt w2 hp) q
 ·rw[S.old _ (.inr q)]
  obtain⟨t,ht⟩:=zqg a b x y
  cases d with
  | zero=>exfalso;grind
  | succ e=>exact(P.s e rfl).2.1 x y h1 h2 (by lia) (by exact zj 10076579480014422058024 rfl h4)
theorem z2e {d ks0 ke0 r u:Nat} (v1:ks0%2=0) (v2:ke0%2=0):(-(d:Int)+ks0-d)%2=0∧((d:Int)-ke0-d)%2=0∧-(d:Int)+ks0-1≤-((d+1:Nat):Int)+((ks0+2 * u:Nat):Int)∧((d+1:Nat):Int)-((ke0+2 * r:Nat):Int)≤(d:Int)-ke0+1∧
  (ks0+2 * u=0→-(d:Int)+ks0=-(d:Int))∧(ke0+2 * r=0→(d:Int)-ke0=d):=by
 refine⟨?_,?_,?_,?_,?_,?_⟩
 ·lia
 ·lia
 ·exact zj 42478232094512850753522968112 rfl
 ·exact zj 312470113906087909736674864 rfl
 ·lia
 ·lia
theorem Sw.done {a b:Tx}{d:Nat}{f0 f:Int→Int}{ks0 ke0 ks ke:Nat}{p:Int} (P:Pre a b d f0 ks0 ke0) (hd:d≤zw a b) (S:Sw a b d f0 ks0 ke0 p f ks ke) (hp:(d:Int)-ke0<p) (hp2:p≤(d:Int)-ke0+2∨p=-(d:Int)+ks0):Pre a b (d+1) f ks ke:=by
 have hn:=P.some hd
 have hpar:=S.par
 obtain⟨v1,v2⟩:=P.ev
 obtain⟨r,rfl,r2⟩:=S.top
 obtain⟨u,rfl,u2,u3⟩:=S.bot
 obtain⟨c1,c2,_⟩:=(zS a b).bound
 refine⟨⟨by rw[Nat.add_mul_mod_self_left];exact v1,by rw[Nat.add_mul_mod_self_left];exact v2⟩,?_,?_,(fun h=>nomatch h),?_,?_⟩
 ·intro k h1 h2 h3
  clear c1 c2 hpar
  by_cases q:0<r
  ·have:=r2 q;(clear hd h3 h1 v1 v2 u2 u3 r2;lia)
  ·obtain rfl:=Nat.eq_zero_of_not_pos q
   have:=P.ti (k-1) (by clear hd hp hp2 hn v1 v2 r2 u2 u3 h2 h3 q;lia) (by exact yR 2599658922384242089528984017925665 rfl h2) (by exact zbr 69463910983491060256 rfl h3)
   exact z7j 12440863935380465208936444527121792478452013048864 rfl this
 ·intro k h1 h2 h3
  clear c1 c2 hpar
  by_cases q:0<u
  ·have:=u3 q;exact z30 4031733603263623566331674682049658543522095631757364875995846954431359860031488545 rfl h2 this
  ·obtain rfl:=Nat.eq_zero_of_not_pos q
   have:=P.bi (k+1) (by clear hd hp hp2 hn v1 v2 r2 u2 u3 h2 h3 q;lia) (by exact yR 205135738613126713155154689496580641 rfl h2) (by exact zbr 18912559853810626165792 rfl h3)
   exact z7j 12440865329177040117258847197837601317779361215520 rfl this
 ·intro h
  have hz:=P.lo (by exact zm 4508479251289128 rfl h)
  obtain⟨rfl,rfl⟩:=hz
  have hr:r=0:=by
   rcases Nat.eq_zero_or_pos r with q | q
   ·exact q
   ·have:=r2 q;(clear hd hn hpar v1 v2 r2 u2 u3 c1;lia)
  have hu:u=0:=by
   rcases Nat.eq_zero_or_pos u with q | q
   ·exact q
   ·have:=u3 q;exact Ai (zd8 26652773374332860321894634269589152301348609319971683964682792 rfl c1 h this) (zm 65592 rfl)
  subst hr hu
  exact⟨rfl,rfl⟩
 ·intro e he
  cases he
  obtain⟨w1,w2,w3,w4,w5,w6⟩:=z2e (d:=d) (r:=r) (u:=u) v1 v2
  refine⟨fun k=>?_,S.all P hp,-(d:Int)+ks0,(d:Int)-ke0,hn,w1,w2,w3,w4,w5,w6,fun k h1 h2 h3=>S.cmp k h1 (Int.lt_of_le_of_lt h2 hp) h3⟩
  rcases S.snd k with q | q | ⟨rfl,q⟩
  ·exact .inl q
  ·exact .inr (.inl q)
  ·refine .inr (.inr ⟨rfl,?_⟩)
   rcases q with q | ⟨q,q2⟩
   ·exact q
   ·subst q
    have:=P.lo (Al _)
    obtain⟨rfl,rfl⟩:=this
    exact Ai ((zrv 36277540327260704 rfl q2 hp).elim) (zqp 524344 rfl)
structure Meet (a b:Tx) (x y:Nat):Prop where
 hx:x≤a.length
 hy:y≤b.length
 cost:EE a b x y+RR a b x y=zw a b
 lo:0<x+y
 hi:x+y<a.length+b.length
theorem zoc {a b:Tx}{d e:Nat}{x y u w:Nat} (h1:EE a b x y≤d) (h2:EE a.reverse b.reverse u w≤e) (hk:(a.length:Int)-b.length-((x:Int)-y)=(u:Int)-w) (hD:d+e≤zw a b):x≤a.length∧y≤b.length:=by
 obtain⟨g1,g2⟩:=zg9 a.reverse b.reverse u w
 have g1:=ntr g1 (Nat.add_le_add_left h2 _)
 have g2:=ntr g2 (Nat.add_le_add_left h2 _)
 clear h2
 rcases Nat.lt_or_ge a.length x with q | q
 ·exfalso
  rcases Nat.lt_or_ge b.length y with q2 | q2
  ·have:=ntr (zs3 q q2) h1
   exact zj 649125621502841896 rfl hD this
  ·have:=zpk q q2
   generalize zw a b=D at *
   generalize EE a b x y=E at *
   exact z3f 1490058126492585934819521800481726535060472363320001378199920556249560356791318051 rfl hk g2 q hD h1 this
 ·refine⟨q,Az fun q2=>?_⟩
  have:=zs1 q q2
  generalize zw a b=D at *
  generalize EE a b x y=E at *
  exact z3f 534078637304140786034528383960457414706996254131093888254292188066343526666319394 rfl hk g1 q2 hD h1 this
theorem z9p {a b:Tx}{d e:Nat}{x y u w:Nat} (h1:EE a b x y≤d) (h2:EE a.reverse b.reverse u w≤e) (hk:(a.length:Int)-b.length-((x:Int)-y)=(u:Int)-w) (h3:(a.length:Int)-u≤x)
  (hD:d+e≤zw a b) (he:e<zw a b) (hd2:d<zw a b):Meet a b x y:=by
 obtain⟨hx,hy⟩:=zoc h1 h2 hk hD
 obtain⟨hu,hw⟩:=zoc (a:=a.reverse) (b:=b.reverse) (u:=x) (w:=y) h2 (by rw[As,As];exact h1) (by rw[Ak,Ak];exact Ad (zn7 1182560660065796484709724917775039147491138713122 rfl hk) (zn7 451096130356663665485918169149033208006664320547 rfl hk)) (by rw[zJ,Nat.add_comm];exact hD)
 rw[Ak] at hu hw
 have hR:RR a b x y≤e:=by
  rw[zzt hu hw] at h2
  obtain⟨i,hi⟩: ∃i,a.length=i+u:=⟨_,(Ab hu).symm⟩
  obtain⟨j,hj⟩: ∃j,b.length=j+w:=⟨_,(Ab hw).symm⟩
  rw[hi,hj,Nat.add_sub_cancel,Nat.add_sub_cancel] at h2
  rw[hi,hj] at hk
  rw[hi] at h3
  obtain⟨t,rfl⟩: ∃t,x=i+t:=⟨x-i,by exact Ai (zj 5265838744531501611 rfl (Ab (zj 5020073061897600333344 rfl h3))) (zj 9804662326409303082 rfl (Ab (zj 5020073061897600333344 rfl h3)))⟩
  obtain rfl:y=j+t:=Ai (zn7 5772944999070864225983318027258301071996450 rfl hk) (zn7 7188393369127346915837065753104394605360675 rfl hk)
  exact ntr (zup a b t hx hy) h2
 have ht:=tri hx hy
 refine⟨hx,hy,Ai (ntr (Nat.add_le_add h1 hR) hD) ht,Nat.pos_of_ne_zero fun q=>?_,Nat.lt_of_le_of_ne (Nat.add_le_add hx hy) fun q=>?_⟩
 ·obtain⟨rfl,rfl⟩:=Nat.add_eq_zero_iff.mp q
  exact absurd (ntr (Al (zw a b)) hR) (Nat.not_le_of_lt he)
 ·obtain rfl:x=a.length:=Ai hx (Nat.le_of_add_le_add_right (ntr (Nat.le_of_eq q.symm) (Nat.add_le_add_left hy _)))
  obtain rfl:=Nat.add_left_cancel q
  rw[z47] at h1
  exact absurd h1 (Nat.not_le_of_lt hd2)
theorem meets {a b:Tx}{d e:Nat}{f g:Int→Int} (hD:zw a b=d+e) (hf:Fu a b d f) (hg:Fu a.reverse b.reverse e g):
  ∃x y:Nat,x≤a.length∧y≤b.length∧EE a b x y≤d∧RR a b x y≤e∧(x:Int)≤f ((x:Int)-y)∧(a.length:Int)-x≤g ((a.length:Int)-b.length-((x:Int)-y)):=by
 obtain⟨x,y,h1,h2,h3,h4⟩:=mid (a:=a) (b:=b) (e:=d) (by rw[hD];exact Bc ..)
 rw[hD,Av] at h4
 refine⟨x,y,h1,h2,h3,h4,hf x y h1 h2 h3 (by rw[hD];exact Nat.add_le_add_left h4 d),?_⟩
 have:=hg (a.length-x) (b.length-y) (by rw[Ak];exact Nat.sub_le ..) (by rw[Ak];exact Nat.sub_le ..)
  (by rw[zzt (Nat.sub_le ..) (Nat.sub_le ..),Nat.sub_sub_self h1,Nat.sub_sub_self h2];exact h4)
  (by rw[z58 (Nat.sub_le ..) (Nat.sub_le ..),Nat.sub_sub_self h1,Nat.sub_sub_self h2,zJ,hD,Nat.add_comm];exact Nat.add_le_add_right h3 e)
 rw[Int.ofNat_sub h1,Int.ofNat_sub h2,show((a.length:Int)-x)-((b.length:Int)-y)=(a.length:Int)-b.length-((x:Int)-y) by exact Ad (zT 32812744668710890283574462232112 rfl) (zT 32812744668710890283574462232112 rfl)] at this
 exact this
structure Tab where
 f:Int→Int
 ks:Nat
 ke:Nat
noncomputable def tx (a b:Tx) (d:Nat) (p:Int) (f:Int→Int):Int:=pick d p f+lcp (a.drop (pick d p f).toNat) (b.drop (pick d p f-p).toNat)
noncomputable def step (a b:Tx) (d:Nat) (p:Int) (s:Tab):Tab:=
 ⟨up s.f p (tx a b d p s.f),ks' a b (tx a b d p s.f).toNat (tx a b d p s.f-p).toNat s.ks,ke' a (tx a b d p s.f).toNat s.ke⟩
noncomputable def Hit (a b:Tx) (off:Nat) (g:Int→Int) (p v:Int):Prop:=
 v≤a.length∧v-p≤b.length∧-(off:Int)≤(a.length:Int)-b.length-p∧(a.length:Int)-b.length-p<off∧g ((a.length:Int)-b.length-p)≠-1∧(a.length:Int)-g ((a.length:Int)-b.length-p)≤v
noncomputable def zfb (a b:Tx) (off d:Nat) (look:Bool) (g:Int→Int):Nat→Int→Tab→Option Int×Tab
 | 0,_,s=>(none,s)
 | n+1,p,s=>open Classical in if look=true∧Hit a b off g p (tx a b d p s.f) then(some p,step a b d p s) else zfb a b off d look g n (p+2) (step a b d p s)
theorem zj7 (a b:Tx) (x y:Nat):Snake a b x y (x+lcp (a.drop x) (b.drop y)) (y+lcp (a.drop x) (b.drop y)):=by
 have h:=yZ (a.drop x) (b.drop y)
 rw[Ap,Ap] at h
 have main: ∀t,t≤lcp (a.drop x) (b.drop y)→EE a b (x+t) (y+t)≤EE a b x y:=by
  intro t
  induction t with
  | zero=>exact fun _=>Al _
  | succ t ih=>
   intro ht
   have h1:x+t<a.length:=Nat.add_lt_of_lt_sub' (ntr ht h.1)
   have h2:y+t<b.length:=Nat.add_lt_of_lt_sub' (ntr ht h.2)
   have e:=(zah (t+1) (a.drop x) (b.drop y) (ntr ht (yZ _ _).1) (ntr ht (yZ _ _).2)).mp ht
   have e2:a[x+t]=b[y+t]:=by
    have:=congrArg (fun l=>l[t]?) e
    simp only[List.getElem?_take,List.getElem?_drop] at this
    rw[if_pos (Cb t),if_pos (Cb t),Ay h1,Ay h2] at this
    exact Option.some.inj this
   exact ntr (zw6 h1 h2 e2) (ih (Nat.le_of_succ_le ht))
 refine⟨by exact Ad (zj 5276323069266458146352 rfl) (zj 5039100425540475090480 rfl),Bc ..,main _ (Al _),fun h1 h2 e=>?_⟩
 have l1:lcp (a.drop x) (b.drop y)+1≤(a.drop x).length:=by rw[Ap];exact Nat.le_sub_of_add_le' h1
 have l2:lcp (a.drop x) (b.drop y)+1≤(b.drop y).length:=by rw[Ap];exact Nat.le_sub_of_add_le' h2
 have:=(zah _ (a.drop x) (b.drop y) l1 l2).mpr (by
  simp only[zaw l1,zaw l2,List.getElem_drop,List.getElem_drop,e,(zah _ _ _ (Nat.le_of_succ_le l1) (Nat.le_of_succ_le l2)).mp (Al _)])
 exact absurd this (Nat.not_succ_le_self _)
theorem zoz {a b:Tx}{d:Nat}{f0:Int→Int}{ks0 ke0:Nat}{p:Int}{s:Tab} (P:Pre a b d f0 ks0 ke0) (hD:2 * d≤zw a b+1) (S:Sw a b d f0 ks0 ke0 p s.f s.ks s.ke) (hp:p≤(d:Int)-ke0):
  ∃x y x1 y1:Nat,pick d p s.f=x∧p=(x:Int)-y∧tx a b d p s.f=x1∧p=(x1:Int)-y1∧x1=x+lcp (a.drop x) (b.drop y)∧EE a b x1 y1≤d∧Sw a b d f0 ks0 ke0 (p+2) (step a b d p s).f (step a b d p s).ks (step a b d p s).ke:=by
 refine bc fun z9=>?_
 obtain⟨x,y,e1,e2,e3,e4,e5⟩:=S.pick P hp
 refine z9 ?_
 have hs:=zj7 a b x y
 have h1:pick d p s.f-p=y:=Ad (zuj 195768821082743581512848835106 rfl e1 e2) (zuj 178477630642889768439965556259 rfl e1 e2)
 have ht:tx a b d p s.f=((x+lcp (a.drop x) (b.drop y):Nat):Int):=by
  unfold tx;(rw[h1,e1];dsimp only[Int.toNat_natCast,Int.toNat_natCast];try with_reducible rfl);rfl
 have hy:tx a b d p s.f-p=((y+lcp (a.drop x) (b.drop y):Nat):Int):=by rw[ht];exact Ad (zbb 42271000652164888154993653283 rfl e2) (zbb 2804914249259621151326011938 rfl e2)
 refine⟨x,y,_,_,e1,e2,ht,by exact Ad (zbb 42271038142489761479399244322 rfl e2) (zbb 2806122564058985798748403235 rfl e2),rfl,ntr hs.cost e3,?_⟩
 have:=S.turn P hD e2 e3 e4 e5 hs
 unfold step
 dsimp only
 (rw[hy,ht];dsimp only[Int.toNat_natCast,Int.toNat_natCast];try with_reducible rfl)
 exact this
noncomputable def z62 (a b:Tx) (off d:Nat) (look:Bool) (g:Int→Int) (lo p:Int) (f:Int→Int):Prop:=look=true→∀k,lo≤k→k<p→(k-d)%2=0→¬Hit a b off g k (f k)
theorem ztb (a b:Tx) (d:Nat) (p:Int) (s:Tab):(step a b d p s).f p=tx a b d p s.f:=zjq ..
theorem zi7 {a b:Tx}{off d:Nat}{g:Int→Int}{look:Bool}{n:Nat}{p:Int}{T:Tab} (c:look=true∧Hit a b off g p (tx a b d p T.f)):zfb a b off d look g (n+1) p T=(some p,step a b d p T):=if_pos c
theorem zf4 {a b:Tx}{off d:Nat}{g:Int→Int}{look:Bool}{n:Nat}{p:Int}{T:Tab} (c: ¬(look=true∧Hit a b off g p (tx a b d p T.f))):zfb a b off d look g (n+1) p T=zfb a b off d look g n (p+2) (step a b d p T):=if_neg c
theorem zpr {a b:Tx}{off d:Nat}{look:Bool}{g f0:Int→Int}{ks0 ke0:Nat} (P:Pre a b d f0 ks0 ke0) (hD:2 * d≤zw a b+1): ∀(n:Nat) (p:Int) (s:Tab),Sw a b d f0 ks0 ke0 p s.f s.ks s.ke→
  z62 a b off d look g (-(d:Int)+ks0) p s.f→(0<n→p+2 * n≤(d:Int)-ke0+2)→
  match zfb a b off d look g n p s with
  | (none,s')=>Sw a b d f0 ks0 ke0 (p+2 * n) s'.f s'.ks s'.ke∧z62 a b off d look g (-(d:Int)+ks0) (p+2 * n) s'.f
  | (some q,s')=>look=true∧Hit a b off g q (s'.f q)∧Gd a b d q (s'.f q)∧(q-d)%2=0
 | 0,p,s,S,N,_=>by
  show Sw .. ∧_
  rw[show p+2 * ((0:Nat):Int)=p by exact Ad (zrv 69199729712 rfl) (zrv 61472375344 rfl)];exact⟨S,N⟩
 | n+1,p,s,S,N,hn=>by
  have hp:p≤(d:Int)-ke0:=by have:=hn (Br n);exact zbb 46431308453328748041718341310616608 rfl this
  refine bc fun z9=>?_
  obtain⟨x,y,x1,y1,e1,e2,e3,e4,e5,e6,S'⟩:=zoz P hD S hp
  refine z9 ?_
  by_cases c:look=true∧Hit a b off g p (tx a b d p s.f)
  ·rw[zi7 c]
   show look=true∧_
   rw[ztb]
   exact⟨c.1,c.2,⟨x1,y1,e3,e4,e6⟩,S.par⟩
  ·rw[zf4 c]
   have:=zpr P hD n (p+2) (step a b d p s) S' (fun hl k h1 h2 h3=>by
    by_cases q:k=p
    ·subst q;rw[ztb];exact fun z=>c ⟨hl,z⟩
    ·rw[show(step a b d p s).f k=s.f k from zr8 _ _ q]
     have:=S.par
     exact N hl k h1 (by grind) h3) (fun q=>by have:=hn (Br n);exact zbb 46070768152017644193002433491240467078215373856 rfl this)
   rw[show p+2 * ((n+1:Nat):Int)=p+2+2 * (n:Int) by exact Ad (zbr 143155963158663893357616 rfl) (zbr 605266785031130749903920 rfl)]
   exact this
noncomputable def zsl (lo hi:Int):Nat:=(PySem.Builtin.Range.rangeSize lo (hi+1) 2).toNat
theorem zrc {lo hi:Int} (h:lo≤hi) (hp:(hi-lo)%2=0):lo+2 * (zsl lo hi:Int)=hi+2:=by
 unfold zsl PySem.Builtin.Range.rangeSize
 rw[if_pos (by decide),if_pos (by exact z9l 4544286264197664 rfl h)]
 grind
theorem zzo {d ks ke:Nat} (h1:ks%2=0) (h2:ke%2=0):(((d:Int)-ke)-(-(d:Int)+ks))%2=0:=by
 have k1:=Nat.div_add_mod ks 2
 have k2:=Nat.div_add_mod ke 2
 rw[h1] at k1
 rw[h2] at k2
 rw[show((d:Int)-ke)-(-(d:Int)+ks)=2 * (d-(ke/2:Nat)-(ks/2:Nat)) by clear h1 h2;generalize ke/2=u at *;generalize ks/2=w at *;exact Ad (zd8 3424526682751413426519729452711739370829078214774178858 rfl k2 k1) (zd8 3430525069438910517826476115616827830553009297241014827 rfl k2 k1)]
 exact Int.mul_emod_right 2 _
noncomputable def zgn (a b:Tx):Bool:=decide (((a.length:Int)-b.length)%2≠0)
noncomputable def ze6 (a b:Tx) (off d:Nat) (s t:Tab):Option Int×Tab:=zfb a b off d (zgn a b) t.f (zsl (-(d:Int)+s.ks) ((d:Int)-s.ke)) (-(d:Int)+s.ks) s
noncomputable def zf0 (a b:Tx) (off d:Nat) (s t:Tab):Option Int×Tab:=zfb a.reverse b.reverse off d (!zgn a b) s.f (zsl (-(d:Int)+t.ks) ((d:Int)-t.ke)) (-(d:Int)+t.ks) t
noncomputable def zwi (a b:Tx) (off:Nat):Nat→Nat→Tab→Tab→Option (Int×Int)
 | 0,_,_,_=>none
 | n+1,d,s,t=>match ze6 a b off d s t with
  | (some p,s')=>some (s'.f p,s'.f p-p)
  | (none,s')=>match zf0 a b off d s' t with
   | (some p,t')=>some (s'.f ((a.length:Int)-b.length-p),s'.f ((a.length:Int)-b.length-p)-((a.length:Int)-b.length-p))
   | (none,t')=>zwi a b off n (d+1) s' t'
theorem z6u (a b:Tx) (off n d:Nat) (s t:Tab):zwi a b off (n+1) d s t=match ze6 a b off d s t with
  | (some p,s')=>some (s'.f p,s'.f p-p)
  | (none,s')=>match zf0 a b off d s' t with
   | (some p,t')=>some (s'.f ((a.length:Int)-b.length-p),s'.f ((a.length:Int)-b.length-p)-((a.length:Int)-b.length-p))
   | (none,t')=>zwi a b off n (d+1) s' t':=rfl
noncomputable def tab0:Tab:=⟨fun k=>if k=1 then 0 else -1,0,0⟩
noncomputable def zeh (a b:Tx):Nat:=(a.length+b.length+1)/2
noncomputable def bis (a b:Tx):Option (Int×Int):=zwi a b (zeh a b) (zeh a b) 0 tab0 tab0
theorem z7d (a b:Tx):Pre a b 0 tab0.f tab0.ks tab0.ke where
 ev:=⟨rfl,rfl⟩
 ti:=fun k _ h1 h2=>by have h1:(0:Int)-0<k:=h1;have h2:k≤0:=h2;exact(zrv 4672991528481 rfl h1 h2).elim
 bi:=fun k _ h1 h2=>by have h1:k < -(0:Int)+0:=h1;have h2:-(0:Int)≤k:=h2;exact(zrv 36242102278029857 rfl h1 h2).elim
 z:=fun _=>⟨rfl,fun k h=>if_neg h⟩
 lo:=fun _=>⟨rfl,rfl⟩
 s:=fun e h=>nomatch h
theorem zmd {a b:Tx}{off d:Nat}{look:Bool}{g:Int→Int}{s:Tab} (P:Pre a b d s.f s.ks s.ke) (hD:2 * d≤zw a b+1) (hd:d≤zw a b):
  match zfb a b off d look g (zsl (-(d:Int)+s.ks) ((d:Int)-s.ke)) (-(d:Int)+s.ks) s with
  | (none,s')=>Pre a b (d+1) s'.f s'.ks s'.ke∧Fu a b d s'.f∧(∀k,s'.f k=-1∨Gd a b d k (s'.f k)∨(k=1∧d=0))∧(look=true→∀x y:Nat,x≤a.length→y≤b.length→EE a b x y≤d→d+RR a b x y≤zw a b→((x:Int)-y-d)%2=0→¬Hit a b off g ((x:Int)-y) (s'.f ((x:Int)-y)))
  | (some q,s')=>look=true∧Hit a b off g q (s'.f q)∧Gd a b d q (s'.f q)∧(q-d)%2=0:=by
 have hn:=P.some hd
 have hv:=P.ev
 have he:=zrc hn (zzo hv.1 hv.2)
 have:=zpr (off:=off) (look:=look) (g:=g) P hD (zsl (-(d:Int)+s.ks) ((d:Int)-s.ke)) (-(d:Int)+s.ks) s (Sw.start P) (fun _ k h1 h2=>absurd h2 (Bk.mpr h1)) (fun _=>by exact zT 12123897828304728120764583509390342609891530918274082 rfl he)
 generalize zfb a b off d look g (zsl (-(d:Int)+s.ks) ((d:Int)-s.ke)) (-(d:Int)+s.ks) s=r at this ⊢
 obtain⟨_ | q,s'⟩:=r
 ·obtain⟨S,N⟩:=this
  rw[he] at S N
  have P':=S.done P hd (by exact ze 4633926776756696625 rfl) (.inl (Int.le_refl _))
  refine⟨P',S.all P (by exact ze 4633926776756696625 rfl),(P'.s d rfl).1,fun hl x y h1 h2 h3 h4 h5=>?_⟩
  obtain⟨w1,w2⟩:=P.within h1 h2 h3 h4 h5
  exact N hl _ w1 (by exact zT 168254149105742915345289476049008160 rfl w2) h5
 ·exact this
theorem zz3 {a b:Tx}{off d e:Nat}{p v:Int}{g:Int→Int} (h:Hit a b off g p v) (G:Gd a b d p v) (hg: ∀k,g k=-1∨Gd a.reverse b.reverse e k (g k)∨(k=1∧e=0)) (hD:d+e≤zw a b) (he:e<zw a b) (hd2:d<zw a b)
  (h1:e=0→(a.length:Int)-b.length-p≠1): ∃x y u w:Nat,v=x∧p=(x:Int)-y∧g ((a.length:Int)-b.length-p)=u∧(a.length:Int)-b.length-p=(u:Int)-w∧Meet a b x y∧Meet a.reverse b.reverse u w:=by
 refine bc fun z9=>?_
 obtain⟨_,_,_,_,h5,h6⟩:=h
 refine z9 ?_
 refine bc fun z9=>?_
 obtain⟨x,y,rfl,e1,e2⟩:=G
 refine z9 ?_
 rcases hg ((a.length:Int)-b.length-p) with q | ⟨u,w,q1,q2,q3⟩ | ⟨q,q2⟩
 ·exact absurd q h5
 ·refine⟨x,y,u,w,rfl,e1,q1,q2,z9p e2 q3 (by exact Ad (z30 16056004824754485903541871930460755641663625989656871458 rfl e1 q2) (z30 3784069339343383289739364216858159883874965648381638179 rfl e1 q2)) (by exact zbb 12540180180636340933318131381792 rfl h6 q1) hD he hd2,?_⟩
  exact z9p q3 (by rw[As,As];exact e2) (by rw[Ak,Ak];exact Ad (z30 3784069339343245303578049211851789067949206405111284258 rfl e1 q2) (z30 9920037813513435201856149182224044702380538537986553379 rfl e1 q2)) (by rw[Ak];exact zbb 22671481462147893103092564031008 rfl h6 q1) (by rw[zJ];exact zj 9804662326409303080 rfl hD) (by rw[zJ];exact hd2) (by rw[zJ];exact he)
 ·exact absurd q (h1 q2)
theorem z40 {a b:Tx}{off d e:Nat}{f g:Int→Int}{x y:Nat} (hx:x≤a.length) (hy:y≤b.length) (h1:EE a b x y≤d) (h2:RR a b x y≤e) (h3:(x:Int)≤f ((x:Int)-y)) (h4:(a.length:Int)-x≤g ((a.length:Int)-b.length-((x:Int)-y)))
  (G:Gd a b d ((x:Int)-y) (f ((x:Int)-y))) (Gg:Gd a.reverse b.reverse e ((a.length:Int)-b.length-((x:Int)-y)) (g ((a.length:Int)-b.length-((x:Int)-y)))) (hD:d+e≤zw a b) (ho:e<off):
  Hit a b off g ((x:Int)-y) (f ((x:Int)-y)):=by
 obtain⟨u,w,e1,e2,e3⟩:=G
 obtain⟨u',w',q1,q2,q3⟩:=Gg
 obtain⟨i1,i2⟩:=zoc e3 q3 (by exact Ad (zwl 95313802694202401988760265400498862929325679575755884255875495458 rfl e2 q2) (zwl 16252457199892062932219958783475681371618422740758911998543066659 rfl e2 q2)) hD
 obtain⟨r1,r2⟩:=zpu hx hy
 unfold Hit
 rw[e1]
 refine⟨by exact ze 347510502130216 rfl i1,by exact zd8 2883917359775417406173153050148303074851 rfl e2 i2,by exact zmi 583526508759194167972531311828075344976541395780136 rfl h2 ho r2,by exact zmi 26172759370947662119629989045571771599249130193448 rfl h2 ho r1,by(clear hx hy h1 h2 h3 h4 hD ho e1 e2 e3 q2 q3 i1 i2 r1 r2;omega),by exact z8f 190173869818015758350477045116260851232 rfl h3 h4 e1⟩
theorem zvh (a b:Tx):(zgn a b=true↔zw a b%2=1):=by
 obtain⟨_,_,t,h⟩:=(zS a b).bound
 unfold zgn
 rw[decide_eq_true_eq]
 generalize zw a b=D at *
 generalize a.length=i at *
 generalize b.length=j at *
 have k:=Nat.div_add_mod D 2
 rcases Nat.mod_two_eq_zero_or_one D with q | q
 ·rw[q] at k ⊢
  have e:(i:Int)-j=2 * ((D/2:Nat)+t-j):=by clear q;generalize D/2=u at *;exact Ad (zd8 3617326492425080462939578009789424304004406973482 rfl h k) (zd8 9460484582606600863779875666344469608412842300459 rfl h k)
  exact⟨fun z=>absurd (by rw[e];exact Int.mul_emod_right 2 _) z,fun z=>nomatch z⟩
 ·rw[q] at k ⊢
  have e:(i:Int)-j=1+2 * ((D/2:Nat)+t-j):=by clear q;generalize D/2=u at *;exact Ad (zd8 3704142328243213604571404909277189665986004696699946 rfl h k) (zd8 9687536212589159284491627431187374921803082187674667 rfl h k)
  exact⟨fun _=>rfl,fun _=>by rw[e,Int.add_mul_emod_self_left];decide⟩
theorem Gd.of {a b:Tx}{d:Nat}{k v:Int}{y x:Nat} (h:v=-1∨Gd a b d k v∨(k=1∧d=0)) (hv:(x:Int)≤v) (hk:d=0→k≠1):Gd a b d k v:=by
 rcases h with h | h | ⟨h,h2⟩
 ·grind
 ·exact h
 ·exact absurd h (hk h2)
theorem ztn {a b:Tx}{off d e:Nat}{f g:Int→Int} (hs:zw a b=d+e) (ho:e<off) (hF:Fu a b d f) (h3: ∀k,f k=-1∨Gd a b d k (f k)∨(k=1∧d=0)) (gF:Fu a.reverse b.reverse e g) (g3: ∀k,g k=-1∨Gd a.reverse b.reverse e k (g k)∨(k=1∧e=0))
  (h4: ∀x y:Nat,x≤a.length→y≤b.length→EE a b x y≤d→d+RR a b x y≤zw a b→((x:Int)-y-d)%2=0→¬Hit a b off g ((x:Int)-y) (f ((x:Int)-y))):False:=by
 obtain⟨x,y,hx,hy,c1,c2,c3,c4⟩:=meets hs hF gF
 obtain⟨t1,p1⟩:=zqg a b x y
 obtain⟨_,_,t2,p2⟩:=(zS a b).bound
 have htri:=tri hx hy
 have hp:((x:Int)-y-d)%2=0:=by clear c3 c4;lia
 have hq:((a.length:Int)-b.length-((x:Int)-y)-e)%2=0:=by clear c3 c4 p1 htri;lia
 have gx:((a.length-x:Nat):Int)=(a.length:Int)-x:=Int.ofNat_sub hx
 exact h4 x y hx hy c1 (by rw[hs];exact Nat.add_le_add_left c2 d) hp (z40 hx hy c1 c2 c3 c4 (Gd.of (y:=0) (h3 _) c3 (fun q z=>by rw[z,q] at hp;exact absurd hp (by decide))) (Gd.of (x:=a.length-x) (y:=0) (g3 _) (gx▸c4) (fun q z=>by rw[z,q] at hq;exact absurd hq (by decide))) (Nat.le_of_eq hs.symm) ho)
theorem znx {a b:Tx}{off d:Nat}{s t:Tab} (Pf:Pre a b d s.f s.ks s.ke) (Pb:Pre a.reverse b.reverse d t.f t.ks t.ke) (hD:2 * d≤zw a b+1) (hD2:2≤zw a b) (ho:d<off):
  match ze6 a b off d s t with
  | (some p,s')=> ∃x y:Nat,s'.f p=x∧p=(x:Int)-y∧Meet a b x y
  | (none,s')=>Pre a b (d+1) s'.f s'.ks s'.ke∧Fu a b d s'.f∧(∀k,s'.f k=-1∨Gd a b d k (s'.f k)∨(k=1∧d=0))∧2 * d≤zw a b:=by
 have:=zmd (off:=off) (look:=zgn a b) (g:=t.f) Pf hD (by exact ze 649178122658326568 rfl hD)
 unfold ze6
 generalize zfb a b off d (zgn a b) t.f (zsl (-(d:Int)+s.ks) ((d:Int)-s.ke)) (-(d:Int)+s.ks) s=r at this ⊢
 have hpar:=zvh a b
 obtain⟨_ | p,s'⟩:=r
 ·obtain⟨h1,h2,h3,h4⟩:=this
  refine⟨h1,h2,h3,?_⟩
  rcases Nat.lt_or_ge (zw a b) (2 * d) with q | q
  ·exfalso
   obtain⟨e,rfl⟩: ∃e,d=e+1:=⟨d-1,by exact Ai (ze 4653349194605134379 rfl (Ab (ze 637811310199337 rfl q))) (ze 5224220029859402794 rfl (Ab (ze 637811310199337 rfl q)))⟩
   have ho':zgn a b=true:=hpar.mpr (by(clear hD2 hpar ho;lia))
   obtain⟨g1,g2,_⟩:=Pb.s e rfl
   exact ztn (e:=e) (by exact Ai (ze 684785942851549031301673 rfl q) (ze 696983561272599764980607016 rfl hD)) (Nat.lt_of_succ_lt ho) h2 h3 g2 g1 (h4 ho')
  ·exact q
 ·obtain⟨ho',hh,hg,hq⟩:=this
  have hdel:((a.length:Int)-b.length)%2≠0:=of_decide_eq_true ho'
  have hodd:=hpar.mp ho'
  cases d with
  | zero=>
   exfalso
   obtain⟨i1,i2,i3,i4,i5,i6⟩:=hh
   obtain⟨x,y,e1,e2,e3⟩:=hg
   obtain⟨z1,z2⟩:=Pb.z rfl
   by_cases q:(a.length:Int)-b.length-p=1
   ·rw[q,z1] at i6
    have:=zg9 a b x y
    exact zuj 187228496183121624437008332791223840 rfl i2 i6 q
   ·exact i5 (z2 _ q)
  | succ e=>
   obtain⟨g1,g2,_⟩:=Pb.s e rfl
   obtain⟨x,y,u,w,k1,k2,_,_,k3,_⟩:=zz3 hh hg g1 (by exact ze 696983561272599764980607016 rfl hD) (by exact ze 664723494705474185256 rfl hD) (by exact ze 673798064586107681244562137128 rfl hD2 hD) (fun q=>by grind)
   exact⟨x,y,k1,k2,k3⟩
theorem zm6 {a b:Tx}{off d:Nat}{s t:Tab} (h2:Fu a b d s.f) (h3: ∀k,s.f k=-1∨Gd a b d k (s.f k)∨(k=1∧d=0)) (Pb:Pre a.reverse b.reverse d t.f t.ks t.ke) (hD:2 * d≤zw a b) (hD2:2≤zw a b) (ho:d<off):
  match zf0 a b off d s t with
  | (some p,t')=> ∃x y:Nat,s.f ((a.length:Int)-b.length-p)=x∧(a.length:Int)-b.length-p=(x:Int)-y∧Meet a b x y
  | (none,t')=>Pre a.reverse b.reverse (d+1) t'.f t'.ks t'.ke∧2 * (d+1)≤zw a b+1:=by
 have:=zmd (off:=off) (look:=!zgn a b) (g:=s.f) Pb (by rw[zJ];exact ze 74453590463754610728 rfl hD) (by rw[zJ];exact ze 633963018266664 rfl hD)
 unfold zf0
 generalize zfb a.reverse b.reverse off d (!zgn a b) s.f (zsl (-(d:Int)+t.ks) ((d:Int)-t.ke)) (-(d:Int)+t.ks) t=r at this ⊢
 have hpar:=zvh a b
 obtain⟨_ | p,t'⟩:=r
 ·obtain⟨k1,k2,k3,k4⟩:=this
  refine⟨k1,?_⟩
  rcases Nat.lt_or_ge (zw a b) (2 * d+1) with q | q
  ·exfalso
   have ho':zgn a b=false:=by
    cases z:zgn a b with
    | false=>rfl
    | true=>have:=hpar.mp z;(clear hD2 ho hpar z;lia)
   exact ztn (e:=d) (by rw[zJ];exact Ai (ze 669415673204289176105 rfl q) (ze 649086854058027048 rfl hD)) ho k2 k3 (by rw[As,As];exact h2) (by rw[As,As];exact h3) (k4 (by rw[ho'];rfl))
  ·(clear hD hD2 ho hpar;exact Be ‹_›)
 ·obtain⟨ho',hh,hg,hq⟩:=this
  have ho':zgn a b=false:=by rwa [Bool.not_eq_true'] at ho'
  have hdel:((a.length:Int)-b.length)%2=0:=Decidable.of_not_not (of_decide_eq_false ho')
  obtain⟨x,y,e1,e2,e3⟩:=id hg
  have h3': ∀k,s.f k=-1∨Gd a.reverse.reverse b.reverse.reverse d k (s.f k)∨(k=1∧d=0):=by rw[As,As];exact h3
  obtain⟨x',y',u,w,_,_,k1,k2,_,k3⟩:=zz3 hh hg h3' (by rw[zJ];exact ze 649086854058027048 rfl hD) (by rw[zJ];exact ze 5318076262138266069032 rfl hD hD2) (by rw[zJ];exact ze 5318076262138266069032 rfl hD hD2) (fun q=>by
   subst q
   have:=zg9 a.reverse b.reverse x y
   rw[Ak,Ak];(clear e2;lia))
  rw[Ak,Ak] at k1 k2
  rw[As,As] at k3
  exact⟨u,w,k1,k2,k3⟩
theorem zsr {a b:Tx}{off:Nat} (hD2:2≤zw a b): ∀(n d:Nat) (s t:Tab),d+n=off→Pre a b d s.f s.ks s.ke→Pre a.reverse b.reverse d t.f t.ks t.ke→2 * d≤zw a b+1→
  match zwi a b off n d s t with
  | some (u,v)=> ∃x y:Nat,u=x∧v=y∧Meet a b x y
  | none=>2 * off≤zw a b+1
 | 0,d,s,t,hn,Pf,Pb,hD=>by show 2 * off≤_;exact zj 659971309957412435009282849243723 rfl hn hD
 | n+1,d,s,t,hn,Pf,Pb,hD=>by
  have hF:=znx (off:=off) Pf Pb hD hD2 (by exact zj 9804838938652709930 rfl hn)
  rw[z6u]
  generalize ze6 a b off d s t=r at hF ⊢
  obtain⟨_ | p,s'⟩:=r
  ·obtain⟨h1,h2,h3,h4⟩:=hF
   have hB:=zm6 (off:=off) h2 h3 Pb h4 hD2 (by exact zj 9804838938652709930 rfl hn)
   dsimp only
   generalize zf0 a b off d s' t=r at hB ⊢
   obtain⟨_ | p,t'⟩:=r
   ·exact zsr hD2 n (d+1) s' t' (by exact Ai (zj 10318666282764277363250218 rfl hn) (zj 10313990821270913238565419 rfl hn)) h1 hB.1 hB.2
   ·obtain⟨x,y,e1,e2,e3⟩:=hB
    exact⟨x,y,e1,by exact Ad (z9u 881681067442870894175604782152533088693846562 rfl e1 e2) (z9u 815290640515788062471128449944128310515080739 rfl e1 e2),e3⟩
  ·obtain⟨x,y,e1,e2,e3⟩:=hF
   exact⟨x,y,e1,by exact Ad (zuj 195768821082743581512848835106 rfl e1 e2) (zuj 178477630642889768439965556259 rfl e1 e2),e3⟩
theorem zw8 {x y x' y':Char}{a b:Tx}{u v:Tx} (h1:x≠y) (ha:x::a=u++[x']) (hb:y::b=v++[y']) (h2:x'≠y'):2≤zw (x::a) (y::b):=by
 have k:=zS (x::a) (y::b)
 generalize zw (x::a) (y::b)=d at k ⊢
 rcases Nat.lt_or_ge d 2 with q | q
 ·exfalso
  have key: ∀{p r:Tx},Ed 0 p r→∀{u v:Tx} {c e:Char},p=u++[c]→r=v++[e]→c=e:=fun h u v c e e1 e2=>by
   have:=h.zero rfl
   rw[e1,e2] at this
   exact(List.append_inj' this rfl).2 |> List.cons.inj |>.1
  cases k with
  | eq c k=>exact h1 rfl
  | del c k=>
   rename_i d
   have:d=0:=Ai (zm 4880160789545 rfl q) (zm 65592 rfl)
   subst this
   cases a with
   | nil=>cases k.zero rfl
   | cons z a=>
    cases u with
    | nil=>cases ha
    | cons _ u=>exact h2 (key k (List.cons.inj ha).2 hb)
  | ins c k=>
   rename_i d
   have:d=0:=Ai (zm 4880160789545 rfl q) (zm 65592 rfl)
   subst this
   cases b with
   | nil=>cases k.zero rfl
   | cons z b=>
    cases v with
    | nil=>cases hb
    | cons _ v=>exact h2 (key k ha (List.cons.inj hb).2)
 ·exact q
theorem z5t {a b:Tx} (h:2≤zw a b):match bis a b with
  | some (u,v)=> ∃x y:Nat,u=x∧v=y∧Meet a b x y
  | none=>zw a b=a.length+b.length:=by
 have:=zsr (off:=zeh a b) h (zeh a b) 0 tab0 tab0 (Nat.zero_add _) (z7d a b) (z7d _ _) (Bq _)
 unfold bis
 generalize zwi a b (zeh a b) (zeh a b) 0 tab0 tab0=r at this ⊢
 cases r with
 | none=>
  obtain⟨_,_,t,ht⟩:=(zS a b).bound
  unfold zeh at this
  show zw a b=_
  have:2 * ((a.length+b.length+1)/2)≤zw a b+1:=this
  grind
 | some q=>exact this
structure HM where
 a1:Tx
 a2:Tx
 b1:Tx
 b2:Tx
 c:Tx
noncomputable def HNo (H:Tx→Tx→Option HM→Prop) (a b:Tx):Prop:=H a b none∧(if b.length<a.length then b.length else a.length)≠1
structure HM.ok (a b:Tx) (h:HM):Prop where
 ea:a=h.a1++h.c++h.a2
 eb:b=h.b1++h.c++h.b2
 c0:h.c≠[]
noncomputable def zd1 (x:Tx):Row:=if x=[] then[] else[(0,x)]
structure Apart (a b:Tx):Prop where
 hd: ∀x y as bs,a=x::as→b=y::bs→x≠y
 tl: ∀x y as bs,a=as++[x]→b=bs++[y]→x≠y
mutual
inductive MainR (H:Tx→Tx→Option HM→Prop):Tx→Tx→Row→Prop
 | same (a:Tx):MainR H a a (zd1 a)
 | diff {p s a b:Tx} {L:Row}:p++a++s≠p++b++s→lcp (p++a++s) (p++b++s)=p.length→Apart a b→CompR H a b L→phi (zd1 p++L++zd1 s)<100→MainR H (p++a++s) (p++b++s) (zA 100 (zd1 p++L++zd1 s))
inductive CompR (H:Tx→Tx→Option HM→Prop):Tx→Tx→Row→Prop
 | ins {b:Tx}:b≠[]→CompR H [] b [(1,b)]
 | del {a:Tx}:a≠[]→CompR H a [] [(-1,a)]
 | inA {u v b:Tx}:b≠[]→b.length<(u++b++v).length→(∀j,j<u.length→¬Occ (u++b++v) b j)→CompR H (u++b++v) b [(-1,u),(0,b),(-1,v)]
 | inB {u v a:Tx}:a≠[]→a.length≤(u++a++v).length→(∀j,j<u.length→¬Occ (u++a++v) a j)→CompR H a (u++a++v) [(1,u),(0,a),(1,v)]
 | one {a b:Tx}:a≠[]→b≠[]→(if b.length<a.length then b.length else a.length)=1→(∀j,¬Occ (if b.length<a.length then a else b) (if b.length<a.length then b else a) j)→CompR H a b [(-1,a),(1,b)]
 | half {a b:Tx} {h:HM} {L1 L2:Row}:(∀j,¬Occ (if b.length<a.length then a else b) (if b.length<a.length then b else a) j)→H a b (some h)→HM.ok a b h→MainR H h.a1 h.b1 L1→MainR H h.a2 h.b2 L2→CompR H a b (L1++(0,h.c)::L2)
 | none {a b:Tx}:a≠[]→b≠[]→(∀j,¬Occ (if b.length<a.length then a else b) (if b.length<a.length then b else a) j)→HNo H a b→bis a b=none→zw a b=a.length+b.length→CompR H a b [(-1,a),(1,b)]
 | bis {a b:Tx} {x y:Nat} {L1 L2:Row}:(∀j,¬Occ (if b.length<a.length then a else b) (if b.length<a.length then b else a) j)→HNo H a b→bis a b=some ((x:Int),(y:Int))→Meet a b x y→MainR H (a.take x) (b.take y) L1→MainR H (a.drop x) (b.drop y) L2→CompR H a b (L1++L2)
end
noncomputable abbrev zsa (a b:Tx):Prop:= ∀j,¬Occ (if b.length<a.length then a else b) (if b.length<a.length then b else a) j
theorem z06 {H:Tx→Tx→Option HM→Prop}{M1 M2:Tx→Tx→Row→Prop} (c1: ∀a,M1 a a (zd1 a))
  (c2: ∀{p s a b L},p++a++s≠p++b++s→lcp (p++a++s) (p++b++s)=p.length→Apart a b→CompR H a b L→phi (zd1 p++L++zd1 s)<100→M2 a b L→M1 (p++a++s) (p++b++s) (zA 100 (zd1 p++L++zd1 s)))
  (c3: ∀{b},b≠[]→M2 [] b [(1,b)]) (c4: ∀{a},a≠[]→M2 a [] [(-1,a)])
  (c5: ∀{u v b},b≠[]→b.length<(u++b++v).length→(∀j,j<u.length→¬Occ (u++b++v) b j)→M2 (u++b++v) b [(-1,u),(0,b),(-1,v)])
  (c6: ∀{u v a},a≠[]→a.length≤(u++a++v).length→(∀j,j<u.length→¬Occ (u++a++v) a j)→M2 a (u++a++v) [(1,u),(0,a),(1,v)])
  (c7: ∀{a b},a≠[]→b≠[]→(if b.length<a.length then b.length else a.length)=1→zsa a b→M2 a b [(-1,a),(1,b)])
  (c8: ∀{a b} {h:HM} {L1 L2},zsa a b→H a b (some h)→HM.ok a b h→MainR H h.a1 h.b1 L1→MainR H h.a2 h.b2 L2→M1 h.a1 h.b1 L1→M1 h.a2 h.b2 L2→M2 a b (L1++(0,h.c)::L2))
  (c9: ∀{a b},a≠[]→b≠[]→zsa a b→HNo H a b→bis a b=none→zw a b=a.length+b.length→M2 a b [(-1,a),(1,b)])
  (c10: ∀{a b} {x y:Nat} {L1 L2},zsa a b→HNo H a b→bis a b=some ((x:Int),(y:Int))→Meet a b x y→MainR H (a.take x) (b.take y) L1→MainR H (a.drop x) (b.drop y) L2→M1 (a.take x) (b.take y) L1→M1 (a.drop x) (b.drop y) L2→M2 a b (L1++L2)):
  (∀{a b L},MainR H a b L→M1 a b L)∧∀{a b L},CompR H a b L→M2 a b L:=
 ⟨fun h=>MainR.rec (motive_1:=fun a b L _=>M1 a b L) (motive_2:=fun a b L _=>M2 a b L) c1 c2 c3 c4 c5 c6 c7 c8 c9 c10 h,
   fun h=>CompR.rec (motive_1:=fun a b L _=>M1 a b L) (motive_2:=fun a b L _=>M2 a b L) c1 c2 c3 c4 c5 c6 c7 c8 c9 c10 h⟩
theorem zja: ∀{L:Row},NE L→zg L→phi L≤2 * ((side (-1) L).length+(side 1 L).length)
 | [],_,_=>Al _
 | p::L,h,k=>by
  have ih:=zja h.tail k.tail
  have h0:=Bl.mpr h.head
  rw[zd]
  unfold side
  rw[Aa,Aa]
  rcases k.head with e | e | e
  ·rw[if_pos (.inr e),if_neg (by lia)];simp only[List.length_nil];grind
  ·rw[if_pos (.inl e),if_pos (.inl e)];grind
  ·rw[if_neg (by lia),if_pos (.inr e)];simp only[List.length_nil];grind
theorem zgg (k:Int) (x:Tx):side k (zd1 x)=x:=by
 unfold zd1;split
 ·rename_i h;rw[h];rfl
 ·rw[zcm,if_pos (.inl rfl)]
theorem zcx (x:Tx):zg (zd1 x):=by unfold zd1;split;exact .nil;exact .cons (.inr (.inl rfl)) .nil
theorem zou (x:Tx):NE (zd1 x):=by unfold zd1;split;exact .nil;exact .cons (by assumption) .nil
structure MG (H:Tx→Tx→Option HM→Prop) (a b:Tx) (L:Row):Prop where
 k:zg L
 n:NE L
 m:side (-1) L=a
 p:side 1 L=b
structure CG (H:Tx→Tx→Option HM→Prop) (a b:Tx) (L:Row):Prop where
 k:zg L
 n:NE L
 m:side (-1) L=a
 p:side 1 L=b
theorem zy7 {H:Tx→Tx→Option HM→Prop}{a b:Tx} (ha:a≠[]) (hb:b≠[]):CG H a b [(-1,a),(1,b)] where
 k:= .cons (.inl rfl) (.cons (.inr (.inr rfl)) .nil)
 n:= .cons ha (.cons hb .nil)
 m:=by show a++([]++[])=a;rw[Ag,Ag]
 p:=by show[]++(b++[])=b;rw[Ag,List.nil_append]
theorem zwb {u b v:Tx} (hb:b≠[]) (A:Apart (u++b++v) b):u≠[]∧v≠[]:=by
 constructor
 ·rintro rfl
  obtain⟨c,bs,rfl⟩:=List.exists_cons_of_ne_nil hb
  exact A.hd c c (bs++v) bs rfl rfl rfl
 ·rintro rfl
  have e:=List.dropLast_concat_getLast hb
  refine A.tl (b.getLast hb) (b.getLast hb) (u++b.dropLast) b.dropLast ?_ e.symm rfl
  rw[Ag,Ah,e]
theorem Apart.swap {a b:Tx} (A:Apart a b):Apart b a:=⟨fun x y as bs h1 h2=>(A.hd y x bs as h2 h1).symm,fun x y as bs h1 h2=>(A.tl y x bs as h2 h1).symm⟩
theorem znw {H:Tx→Tx→Option HM→Prop}:(∀{a b L},MainR H a b L→MG H a b L)∧∀{a b L},CompR H a b L→Apart a b→CG H a b L:=by
 refine z06 (M1:=MG H) (M2:=fun a b L=>Apart a b→CG H a b L) ?_ ?_ ?_ ?_ ?_ ?_ ?_ ?_ ?_ ?_
 ·intro a
  exact⟨zcx a,zou a,zgg _ a,zgg _ a⟩
 ·intro p s a b L hne _ A hc hp ih
  have C:=ih A
  have hN:NE (zd1 p++L++zd1 s):=((zou p).append C.n).append (zou s)
  have hK:zg (zd1 p++L++zd1 s):=((zcx p).append C.k).append (zcx s)
  obtain⟨k1,k5⟩:=zg5 100 _ hK hp
  have hm: ∀k:Int,k=-1∨k=1→side k (zA 100 (zd1 p++L++zd1 s))=p++side k L++s:=fun k hk=>by
   rw[k5 k hk,sda,sda,zgg,zgg]
  exact⟨k1,(zl9 100 _ hN hK hp).1,by rw[hm _ (.inl rfl),C.m],by rw[hm _ (.inr rfl),C.p]⟩
 ·intro b hb A
  exact⟨.cons (.inr (.inr rfl)) .nil,.cons hb .nil,rfl,Ag b⟩
 ·intro a ha A
  exact⟨.cons (.inl rfl) .nil,.cons ha .nil,Ag a,rfl⟩
 ·intro u v b hb hl hf A
  obtain⟨hu,hv⟩:=zwb hb A
  exact⟨.cons (.inl rfl) (.cons (.inr (.inl rfl)) (.cons (.inl rfl) .nil)),.cons hu (.cons hb (.cons hv .nil)),by show u++(b++(v++[]))=_;rw[Ag,Ah],by show[]++(b++([]++[]))=b;rw[Ag,Ag];rfl⟩
 ·intro u v b hb hl hf A
  obtain⟨hu,hv⟩:=zwb hb A.swap
  exact⟨.cons (.inr (.inr rfl)) (.cons (.inr (.inl rfl)) (.cons (.inr (.inr rfl)) .nil)),.cons hu (.cons hb (.cons hv .nil)),by show[]++(b++([]++[]))=b;rw[Ag,Ag];rfl,by show u++(b++(v++[]))=_;rw[Ag,Ah]⟩
 ·intro a b ha hb h1 h2 A
  exact zy7 ha hb
 ·intro a b h L1 L2 h2 hh ho _ _ i1 i2 A
  refine⟨i1.k.append (.cons (.inr (.inl rfl)) i2.k),i1.n.append (.cons ho.c0 i2.n),?_,?_⟩
  ·rw[sda,i1.m];show h.a1++(h.c++side (-1) L2)=a;rw[i2.m,ho.ea,Ah]
  ·rw[sda,i1.p];show h.b1++(h.c++side 1 L2)=b;rw[i2.p,ho.eb,Ah]
 ·intro a b ha hb h2 hh hn hd A
  exact zy7 ha hb
 ·intro a b x y L1 L2 h2 hh hb hm _ _ i1 i2 A
  exact⟨i1.k.append i2.k,i1.n.append i2.n,by rw[sda,i1.m,i2.m,Bb],by rw[sda,i1.p,i2.p,Bb]⟩
theorem ziz {H:Tx→Tx→Option HM→Prop}{a b:Tx}{L:Row} (h:MainR H a b L):MG H a b L:=znw.1 h
theorem zsm {H:Tx→Tx→Option HM→Prop}{a b:Tx}{L:Row} (h:CompR H a b L) (A:Apart a b):CG H a b L:=znw.2 h A
end Mine.Internal
namespace Mine.Internal
open PySem PyProof.Rows PySem.W
noncomputable def zc9:List Str:=[]
noncomputable def zdb:List Str:=[]
theorem zmw {n k:Nat}:(max 0 (min (k:Int) (n:Int))).toNat=min k n:=by
 by_cases h:k≤n
 ·rw[Int.min_eq_left (Int.ofNat_le.mpr h),Int.max_eq_right (Int.natCast_nonneg _),Int.toNat_natCast,Aw h]
 ·have h:=Nat.le_of_not_le h
  rw[Int.min_eq_right (Int.ofNat_le.mpr h),Int.max_eq_right (Int.natCast_nonneg _),Int.toNat_natCast,Nat.min_eq_right h]
theorem zfl {n:Nat}{i:Nat}:z0f n (i:Int)=min i n:=by
 unfold z0f clipAt
 rw[if_neg (Bk.mpr (Int.natCast_nonneg i))]
 exact zmw
theorem zlu {n:Nat}{i:Nat} (h:0<i) (h2:i≤n):z0f n (-(i:Int))=n-i:=by
 unfold z0f clipAt
 rw[if_pos (Int.neg_neg_of_pos (Bj.mpr h)),show -(i:Int)+n=((n-i:Nat):Int) by rw[Int.ofNat_sub h2,Int.add_comm];rfl,zmw,Aw (Nat.sub_le _ _)]
theorem zir {α:Type} (xs:List α) {a b:Nat} (h1:a≤b) (h2:b≤xs.length):zcd xs (some (a:Int)) (some (b:Int))=(xs.drop a).take (b-a):=by
 unfold zcd zfj zh5
 simp only[Option.elim,zfl]
 rw[Aw h2,Aw (ntr h1 h2)]
theorem zb4 {α:Type} (xs:List α) {b:Nat} (h2:b≤xs.length):zcd xs none (some (b:Int))=xs.take b:=by
 unfold zcd zfj zh5
 simp only[Option.elim,zfl]
 rw[Aw h2];simp
theorem zQ {α:Type} (xs:List α) {a:Nat} (h2:a≤xs.length):zcd xs (some (a:Int)) none=xs.drop a:=by
 unfold zcd zfj zh5
 simp only[Option.elim,zfl]
 rw[Aw h2];exact Bd (by simp)
theorem zny {a b:Tx}{k l:Nat} (h:k≤l) (hk:a.take k=b.take k):((a.drop k).take (l-k)=(b.drop k).take (l-k))↔a.take l=b.take l:=by
 have e: ∀x:Tx,x.take l=x.take k++(x.drop k).take (l-k):=fun x=>by
  rw[←List.take_add];congr 1;exact Ai (zj 5265838744531501611 rfl (Ab (ze 4952567644712 rfl h))) (zj 9804662326409303082 rfl (Ab (ze 4952567644712 rfl h)))
 rw[e a,e b,hk]
 exact⟨fun q=>by rw[q],fun q=>List.append_cancel_left q⟩
noncomputable def zbf:List Str:=["self","text1","text2"]
noncomputable def zap:List Str:=["pointermin","pointermax","pointermid","pointerstart"]
noncomputable def zct:List (Str×NameKind):=[("min",.globalImplicit),("len",.globalImplicit)]
noncomputable def zV:List Sm:=[
  .ife (.bor [.not (.var 1),.not (.var 2),.cmp (.idx (.var 1) (.lit (.int 0))) [.NotEq] [.idx (.var 2) (.lit (.int 0))]]) [
   .ret (.lit (.int 0))] [],
  .assign [.var 3] (.lit (.int 0)),
  .assign [.var 4] (.bi .min [.bi .len [.var 1],.bi .len [.var 2]]),
  .assign [.var 5] (.var 4),
  .assign [.var 6] (.lit (.int 0)),
  .whl (.cmp (.var 3) [.Lt] [.var 5]) [
   .ife (.cmp (.slc (.var 1) (.var 6) (.var 5) (.lit .none)) [.Eq] [.slc (.var 2) (.var 6) (.var 5) (.lit .none)]) [
    .assign [.var 3] (.var 5),
    .assign [.var 6] (.var 3)] [
    .assign [.var 4] (.var 5)],
   .assign [.var 5] (.bin .Add (.bin .FloorDiv (.bin .Sub (.var 4) (.var 3)) (.lit (.int 2))) (.var 3))],
  .ret (.var 5)]
structure Half (N L pmin pmax pmid:Nat):Prop where
 a:pmin≤L
 b:pmin≤pmid
 c:pmid≤pmax
 d:pmax≤N
 e:L≤pmax
 f:pmid=pmax∨(L<pmax∧pmid=(pmax-pmin)/2+pmin)
theorem zba {α:Type} (xs:List α) (i:Nat) (h:i<xs.length):zK xs (i:Int)=xs[i]? :=by
 unfold zK
 have:seqIndex? (i:Int) xs.length=some i:=by
  unfold seqIndex?
  have e:(if (i:Int)<0 then(i:Int)+xs.length else(i:Int))=i:=if_neg (by exact Bk.mpr (zm 983088 rfl))
  simp only[e]
  rw[if_pos (by simp;omega)];simp
 rw[this];rfl
theorem zbu {α:Type} (xs:List α) (h:0<xs.length):zK xs (-1)=xs[xs.length-1]? :=by
 unfold zK
 have:seqIndex? (-1) xs.length=some (xs.length-1):=by
  unfold seqIndex?
  have e:(if (-1:Int)<0 then(-1:Int)+xs.length else(-1:Int))=((xs.length-1:Nat):Int):=by rw[if_pos (by decide)];exact(Int.ofNat_sub ‹_›).symm
  simp only[e]
  rw[if_pos (by simp;exact ze 5071437861753898 rfl (Ab (zm 584585379881 rfl h)))];simp
 rw[this];rfl
theorem zyz {N L pmin pmax pmid:Nat} (h:Half N L pmin pmax pmid) (e:pmid≤pmin):pmid=L:=by
 obtain⟨a,b,c,d,e',f⟩:=h
 have hp:pmid=pmin:=Ai e b
 refine Ai (hp▸a) ?_
 rcases f with f | ⟨f1,f2⟩
 ·rw[f];exact e'
 ·rw[hp] at f2 ⊢
  have f3:(pmax-pmin)/2=0:=Nat.add_right_cancel (f2.symm.trans (Nat.zero_add _).symm)
  have f4:pmax-pmin<2:=Nat.lt_of_not_le fun z=>absurd f3 (Nat.ne_of_gt (Nat.div_pos z (by decide)))
  exact Nat.le_of_lt_succ (Ba f1 (Nat.sub_le_iff_le_add'.mp (Nat.le_of_lt_succ f4)))
theorem zuz {x y:Nat} (h:x≤y):(y-x)/2+x≤y:=ntr (Nat.add_le_add_right (Nat.div_le_self _ _) _) (Nat.le_of_eq (Ab h))
theorem z3b {N L pmin pmax pmid:Nat} (h:Half N L pmin pmax pmid) (e:pmin<pmid) (g:pmid≤L):Half N L pmid pmax ((pmax-pmid)/2+pmid)∧2 * (pmax-pmid)+(if (pmax-pmid)/2+pmid=pmax then 1 else 0)<2 * (pmax-pmin)+(if pmid=pmax then 1 else 0):=by
 obtain⟨a,b,c,d,e',f⟩:=h
 refine⟨⟨g,Nat.le_add_left ..,zuz c,d,e',?_⟩,?_⟩
 ·rcases f with q | q
  ·exact .inl (by rw[q,Nat.sub_self];exact Nat.zero_add _)
  ·exact .inr ⟨q.1,rfl⟩
 ·have i1:(if (pmax-pmid)/2+pmid=pmax then 1 else 0)≤1:=by split<;>decide
  refine Ba (Nat.lt_succ_of_le (Nat.add_le_add_left i1 _)) (ntr ?_ (Bc _ _))
  clear f i1 d e' a
  exact zd8 23106876828768228517046174317749942352413257 rfl e (Ab (ze 4952567644712 rfl c)) (Ab (zj 78438641144798183977 rfl e c))
theorem zv7 {N L pmin pmax pmid:Nat} (h:Half N L pmin pmax pmid) (e:pmin<pmid) (g: ¬pmid≤L):Half N L pmin pmid ((pmid-pmin)/2+pmin)∧2 * (pmid-pmin)+(if (pmid-pmin)/2+pmin=pmid then 1 else 0)<2 * (pmax-pmin)+(if pmid=pmax then 1 else 0):=by
 obtain⟨a,b,c,d,e',f⟩:=h
 refine⟨⟨a,Nat.le_add_left ..,zuz b,ntr c d,Ax (Nat.lt_of_not_le g),.inr ⟨Nat.lt_of_not_le g,rfl⟩⟩,?_⟩
 rw[if_neg (fun q=>Nat.ne_of_lt (Nat.lt_of_lt_of_eq (Nat.add_lt_add_right (Nat.div_lt_self (Nat.sub_pos_of_lt e) (by decide)) _) (Ab (Ax e))) q)]
 by_cases q:pmid=pmax
 ·rw[if_pos q,q];exact Cb _
 ·exact Ba (Nat.mul_lt_mul_of_pos_left (Nat.sub_lt_sub_right (Ax e) (Nat.lt_of_le_of_ne c q)) (by decide)) (Bc _ _)
theorem zv8 (a b:Nat):(if (b:Int)<(a:Int) then(b:Int) else(a:Int))=((min a b:Nat):Int):=by
 rcases Nat.lt_or_ge b a with h | h
 ·rw[if_pos (Bj.mpr h),Nat.min_eq_right (Ax h)]
 ·rw[if_neg (fun q=>Nat.not_lt.mpr h (Bj.mp q)),Aw h]
theorem zqn {a b:Nat} (h:b≤a):((a:Int)-(b:Int))/2+(b:Int)=(((a-b)/2+b:Nat):Int):=by rw[←Int.ofNat_sub h];rfl
theorem zk0 (x:Tx):lcp [] x=0:=by simp[lcp]
theorem zkh (x:Tx):lcp x []=0:=by cases x<;>simp[lcp]
theorem ssn {P:PC}{s:Sm}{Q:Fl→St→Prop}{σ:St} (h:wpS P s Q σ):zk P [s] Q σ:=by
 have e: ∀F:Fl→St→Prop,(∀fl σ,F fl σ=Q fl σ)→wpS P s F σ:=fun F hF=>by
  rw[show F=Q from funext fun _=>funext fun _=>hF _ _];exact h
 exact e _ fun fl σ=>by cases fl<;>rfl
noncomputable abbrev hvS (self:V) (a b:Tx) (pmin pmax pmid pst:Nat) (m:Mem):St:=⟨[some self,some (.str a),some (.str b),some (.int pmin),some (.int pmax),some (.int pmid),some (.int pst)],m⟩
inductive IH (self:V) (a b:Tx) (m:Mem) (N L n:Nat) (σ:St):Prop
 | mk (pmin pmax pmid:Nat):σ=hvS self a b pmin pmax pmid pmin m→Half N L pmin pmax pmid→n=2 * (pmax-pmin)+(if pmid=pmax then 1 else 0)→IH self a b m N L n σ
theorem znz {P:PC}{self:V}{a b:Tx}{m:Mem}{N L:Nat}{c:Ex}{QQ:Fl→St→Prop} (hN:N≤1000000) (hL:L≤N)
  (hc: ∀pmin pmax pmid:Nat,Half N L pmin pmax pmid→pmin<pmid→∀K:Bool→St→Prop,K (decide (pmid≤L)) (hvS self a b pmin pmax pmid pmin m)→wpT P c (wpE P c) K (hvS self a b pmin pmax pmid pmin m))
  (h: ∀x y z:Nat,QQ .next (hvS self a b x y L z m)):
  wpS P (.whl (.cmp (.var 3) [.Lt] [.var 5]) [
   .ife c [
    .assign [.var 3] (.var 5),
    .assign [.var 6] (.var 3)] [
    .assign [.var 4] (.var 5)],
   .assign [.var 5] (.bin .Add (.bin .FloorDiv (.bin .Sub (.var 4) (.var 3)) (.lit (.int 2))) (.var 3))]) QQ (hvS self a b 0 N N 0 m):=by
 rw[r_swhl]
 refine⟨IH self a b m N L,⟨_,0,N,N,rfl,⟨Bq _,Bq _,Al _,Al _,hL,.inl rfl⟩,rfl⟩,?_⟩
 rintro n σ' ⟨pmin,pmax,pmid,rfl,H,rfl⟩
 have T: ∀K:Bool→St→Prop,K (decide ((pmin:Int)<pmid)) (hvS self a b pmin pmax pmid pmin m)→wpT P (.cmp (.var 3) [.Lt] [.var 5]) (wpE P (.cmp (.var 3) [.Lt] [.var 5])) K (hvS self a b pmin pmax pmid pmin m):=fun K k=>by
  walk_at "D";exact k
 refine T _ ?_
 by_cases hlt:pmin<pmid
 ·refine zax (by exact Bj.mpr ‹_›) ?_
  refine za fun Q1 n1 r1=>zf fun K kt kf=>hc pmin pmax pmid H hlt K ?_
  by_cases hk:pmid≤L
  ·rw[Af hk]
   obtain⟨H',M⟩:=z3b H hlt hk
   refine kt _ (za fun Q2 n2 r2=>?_)
   walk_at "D"
   refine n2 _ (ssn ?_)
   walk_at "D"
   refine n1 _ (ssn ?_)
   walk_at "D"
   refine⟨by decide,by (first|exact zag (by lia)|(unfold zr;lia)|(unfold zr;grind)),_,M,pmid,pmax,_,?_,H',rfl⟩
   rw[zqn H.c]
  ·rw[Ae hk]
   obtain⟨H',M⟩:=zv7 H hlt hk
   refine kf _ (ssn ?_)
   walk_at "D"
   refine n1 _ (ssn ?_)
   walk_at "D"
   refine⟨by decide,by (first|exact zag (by lia)|(unfold zr;lia)|(unfold zr;grind)),_,M,pmin,pmid,_,?_,H',rfl⟩
   rw[zqn H.b]
 ·refine zcv (by exact Bk.mpr (ze 347510502130220 rfl hlt)) ?_
  rw[zyz H (by exact Az ‹_›)]
  exact h _ _ _
theorem ze4 (P:PC) (self:V) (a b:Tx) (m:Mem) (ha:sma a.length) (hb:sma b.length) (Q:V→Mem→Prop) (q:Q (.int (lcp a b)) m):
  zk P zV (fun fl σ'=>Q (retV fl) σ'.mem) ⟨[self,.str a,.str b].map some++List.replicate 4 none,m⟩:=by
 show zk P _ _ ⟨[some self,some (.str a),some (.str b),none,none,none,none],m⟩
 unfold zV
 refine za fun Q1 n1 r1=>zf fun K kt kf=>?_
 have no:lcp a b=0→K true ⟨[some self,some (.str a),some (.str b),none,none,none,none],m⟩:=fun e=>kt _ (ssn (r1 _ _ (by rw[e] at q;exact q)))
 walk_at "D"
 refine⟨ha,?_⟩
 cases a with
 | nil=>exact no (zk0 b)
 | cons x as=>
 refine⟨hb,?_⟩
 cases b with
 | nil=>exact no (zkh _)
 | cons y bs=>
 have t0:zr 0:=by (first|exact zag (by lia)|(unfold zr;lia)|(unfold zr;grind))
 refine⟨t0,x,zba (x::as) 0 (by simp),t0,y,zba (y::bs) 0 (by simp),?_⟩
 by_cases hxy:x=y
 ·rw[Af (by rw[hxy]:[x]=[y])]
  have L0:=yZ (x::as) (y::bs)
  refine kf _ (zc (n1 _ ?_))
  generalize x::as=a at *
  generalize y::bs=b at *
  refine za fun Q2 n2 r2=>?_
  walk_at "D"
  refine n2 _ (za fun Q3 n3 r3=>?_)
  walk_at "D"
  refine⟨ha,hb,n3 _ (za fun Q4 n4 r4=>?_)⟩
  rw[zv8]
  walk_at "D"
  refine n4 _ (za fun Q5 n5 r5=>?_)
  walk_at "D"
  refine n5 _ (za fun Q6 n6 r6=>?_)
  refine znz (N:=min a.length b.length) (L:=lcp a b) (by unfold sma at ha;exact ze 40751406487290879701028805005017640 rfl ha (Nat.min_le_left _ _)) (by lia) (fun pmin pmax pmid H hlt K' k=>?_) fun x y z=>n6 _ (ssn q)
  have h1:pmid≤a.length:=by have:=H.c;have:=H.d;grind
  have h2:pmid≤b.length:=by have:=H.c;have:=H.d;lia
  walk_at "D"
  refine⟨ha,hb,?_⟩
  rw[zir _ H.b h1,zir _ H.b h2]
  have e0:=(zah pmin a b (ntr H.b h1) (ntr H.b h2)).mp H.a
  have key:=(zny H.b e0).trans (zah pmid a b h1 h2).symm
  rw[decide_eq_decide.mpr key]
  exact k
 ·rw[Ae (fun z=>hxy (List.cons.inj z).1)]
  exact no (by unfold lcp;rw[if_neg hxy])
theorem zp2 (xs:Tx) {k l:Nat} (h0:0<k) (h1:l≤k) (h2:k≤xs.length):zcd xs (some (-(k:Int))) (some ((xs.length:Int)-(l:Int)))=((xs.reverse.drop l).take (k-l)).reverse:=by
 obtain⟨n,hn⟩: ∃n,xs.length=k+n:=⟨_,(Nat.add_sub_cancel' h2).symm⟩
 obtain⟨i,rfl⟩: ∃i,k=l+i:=⟨_,(Nat.add_sub_cancel' h1).symm⟩
 have e1:((xs.length:Int)-(l:Int))=((n+i:Nat):Int):=by rw[hn];exact Ad (zj 337044959070012405296 rfl) (zj 659509700740509642288 rfl)
 have e2:xs.length-(l+i)=n:=by rw[hn];exact Av ..
 have e3:xs.length-l=n+i:=by rw[hn,Nat.add_assoc,Av,Nat.add_comm]
 unfold zcd zfj zh5
 simp only[Option.elim]
 rw[zlu h0 h2,e1,zfl,Aw (by rw[hn,Nat.add_assoc,Nat.add_comm n i];exact Nat.le_add_left ..),e2,Av,Av]
 rw[List.drop_reverse,List.take_reverse,As,An,Aw (by rw[e3,hn,Nat.add_assoc,Nat.add_comm n i];exact Nat.le_add_left ..),List.drop_take,e3,Nat.add_sub_cancel,Av]
noncomputable def zbe:List Str:=["self","text1","text2"]
noncomputable def zau:List Str:=["pointermin","pointermax","pointermid","pointerend"]
noncomputable def zc1:List (Str×NameKind):=[("min",.globalImplicit),("len",.globalImplicit)]
noncomputable def zU:List Sm:=[
  .ife (.bor [.not (.var 1),.not (.var 2),.cmp (.idx (.var 1) (.neg (.lit (.int 1)))) [.NotEq] [.idx (.var 2) (.neg (.lit (.int 1)))]]) [
   .ret (.lit (.int 0))] [],
  .assign [.var 3] (.lit (.int 0)),
  .assign [.var 4] (.bi .min [.bi .len [.var 1],.bi .len [.var 2]]),
  .assign [.var 5] (.var 4),
  .assign [.var 6] (.lit (.int 0)),
  .whl (.cmp (.var 3) [.Lt] [.var 5]) [
   .ife (.cmp (.slc (.var 1) (.neg (.var 5)) (.bin .Sub (.bi .len [.var 1]) (.var 6)) (.lit .none)) [.Eq] [.slc (.var 2) (.neg (.var 5)) (.bin .Sub (.bi .len [.var 2]) (.var 6)) (.lit .none)]) [
    .assign [.var 3] (.var 5),
    .assign [.var 6] (.var 3)] [
    .assign [.var 4] (.var 5)],
   .assign [.var 5] (.bin .Add (.bin .FloorDiv (.bin .Sub (.var 4) (.var 3)) (.lit (.int 2))) (.var 3))],
  .ret (.var 5)]
theorem zqw (xs:Tx) (x:Char) (as:Tx) (h:xs.reverse=x::as):xs[xs.length-1]? =some x:=by
 have e:xs=as.reverse++[x]:=by rw[←As xs,h];simp
 subst e;simp
theorem zfa (P:PC) (self:V) (a b:Tx) (m:Mem) (ha:sma a.length) (hb:sma b.length) (Q:V→Mem→Prop) (q:Q (.int (lcs a b)) m):
  zk P zU (fun fl σ'=>Q (retV fl) σ'.mem) ⟨[self,.str a,.str b].map some++List.replicate 4 none,m⟩:=by
 show zk P _ _ ⟨[some self,some (.str a),some (.str b),none,none,none,none],m⟩
 unfold zU
 refine za fun Q1 n1 r1=>zf fun K kt kf=>?_
 have no:lcs a b=0→K true ⟨[some self,some (.str a),some (.str b),none,none,none,none],m⟩:=fun e=>kt _ (ssn (r1 _ _ (by rw[e] at q;exact q)))
 walk_at "D"
 refine⟨ha,?_⟩
 cases a':a.reverse with
 | nil=>
  rw[List.reverse_eq_nil_iff.mp a'] at no ⊢
  exact no (zk0 _)
 | cons x as=>
 cases b':b.reverse with
 | nil=>
  have na:a.isEmpty=false:=by cases a with | nil=>cases a' | cons=>rfl
  rw[na]
  refine⟨hb,?_⟩
  rw[List.reverse_eq_nil_iff.mp b'] at no ⊢
  exact no (zkh _)
 | cons y bs=>
 have na:a.isEmpty=false:=by cases a with | nil=>cases a' | cons=>rfl
 have nb:b.isEmpty=false:=by cases b with | nil=>cases b' | cons=>rfl
 have pa:0<a.length:=by rw[←Ak,a'];exact Br _
 have pb:0<b.length:=by rw[←Ak,b'];exact Br _
 rw[na]
 refine⟨hb,?_⟩
 rw[nb]
 have t1:zr (-1):=by (first|exact zag (by lia)|(unfold zr;lia)|(unfold zr;grind))
 refine⟨t1,x,(zbu a pa).trans (zqw a x as a'),t1,y,(zbu b pb).trans (zqw b y bs b'),?_⟩
 by_cases hxy:x=y
 ·rw[Af (by rw[hxy]:[x]=[y])]
  have L0:=zgk a b
  refine kf _ (zc (n1 _ (za fun Q2 n2 r2=>?_)))
  walk_at "D"
  refine n2 _ (za fun Q3 n3 r3=>?_)
  walk_at "D"
  refine⟨ha,hb,n3 _ (za fun Q4 n4 r4=>?_)⟩
  rw[zv8]
  walk_at "D"
  refine n4 _ (za fun Q5 n5 r5=>?_)
  walk_at "D"
  refine n5 _ (za fun Q6 n6 r6=>?_)
  refine znz (N:=min a.length b.length) (L:=lcs a b) (by unfold sma at ha;exact ze 40751406487290879701028805005017640 rfl ha (Nat.min_le_left _ _)) (by lia) (fun pmin pmax pmid H hlt K' k=>?_) fun x y z=>n6 _ (ssn q)
  have h1:pmid≤a.length:=by have:=H.c;have:=H.d;grind
  have h2:pmid≤b.length:=by have:=H.c;have:=H.d;lia
  have h0:0<pmid:=Nat.lt_of_le_of_lt (Bq _) hlt
  walk_at "D"
  refine⟨ha,ha,hb,hb,?_⟩
  rw[zp2 _ h0 H.b h1,zp2 _ h0 H.b h2]
  have r1':pmid≤a.reverse.length:=by rw[Ak];exact h1
  have r2':pmid≤b.reverse.length:=by rw[Ak];exact h2
  have e0:=(zah pmin a.reverse b.reverse (ntr H.b r1') (ntr H.b r2')).mp H.a
  have key:=(zny H.b e0).trans (zah pmid a.reverse b.reverse r1' r2').symm
  rw[decide_eq_decide.mpr (List.reverse_inj.trans key)]
  exact k
 ·rw[Ae (fun z=>hxy (List.cons.inj z).1)]
  exact no (by unfold lcs;rw[a',b'];unfold lcp;rw[if_neg hxy])
noncomputable def zbc:List Str:=["self","diffs"]
noncomputable def za1:List Str:=["pointer","count_delete","count_insert","text_delete","text_insert","commonlength","x","new_ops","changes"]
noncomputable def zcy:List (Str×NameKind):=[("len",.globalImplicit)]
noncomputable def zc5:List Str:=[]
noncomputable def yJ:List Sm:=[
  .aug 4 .Add (.lit (.int 1)),
  .aug 6 .Add (.idx (.idx (.var 1) (.var 2)) (.lit (.int 1))),
  .aug 2 .Add (.lit (.int 1))]
noncomputable def yG:List Sm:=[
  .aug 3 .Add (.lit (.int 1)),
  .aug 5 .Add (.idx (.idx (.var 1) (.var 2)) (.lit (.int 1))),
  .aug 2 .Add (.lit (.int 1))]
noncomputable def zbd:List Sm:=[
  .expr (.me (.var 1) .insert [.lit (.int 0),.tup [.attr (.var 0) "DIFF_EQUAL",.slc (.var 6) (.lit .none) (.var 7) (.lit .none)]]),
  .aug 2 .Add (.lit (.int 1))]
noncomputable def yH:List Sm:=[
  .assign [.var 8] (.bin .Sub (.bin .Sub (.bin .Sub (.var 2) (.var 3)) (.var 4)) (.lit (.int 1))),
  .ife (.band [.cmp (.var 8) [.GtE] [.lit (.int 0)],.cmp (.idx (.idx (.var 1) (.var 8)) (.lit (.int 0))) [.Eq] [.attr (.var 0) "DIFF_EQUAL"]]) [
   .assign [.idx (.var 1) (.var 8)] (.tup [.idx (.idx (.var 1) (.var 8)) (.lit (.int 0)),.bin .Add (.idx (.idx (.var 1) (.var 8)) (.lit (.int 1))) (.slc (.var 6) (.lit .none) (.var 7) (.lit .none))])] zbd,
  .assign [.var 6] (.slc (.var 6) (.var 7) (.lit .none) (.lit .none)),
  .assign [.var 5] (.slc (.var 5) (.var 7) (.lit .none) (.lit .none))]
noncomputable def yE:List Sm:=[
  .assign [.idx (.var 1) (.var 2)] (.tup [.idx (.idx (.var 1) (.var 2)) (.lit (.int 0)),.bin .Add (.slc (.var 6) (.neg (.var 7)) (.lit .none) (.lit .none)) (.idx (.idx (.var 1) (.var 2)) (.lit (.int 1)))]),
  .assign [.var 6] (.slc (.var 6) (.lit .none) (.neg (.var 7)) (.lit .none)),
  .assign [.var 5] (.slc (.var 5) (.lit .none) (.neg (.var 7)) (.lit .none))]
noncomputable def yI:List Sm:=[
  .assign [.var 7] (.imeth (.var 0) "diff_commonPrefix" [.var 6,.var 5]),
  .ife (.cmp (.var 7) [.NotEq] [.lit (.int 0)]) yH [],
  .assign [.var 7] (.imeth (.var 0) "diff_commonSuffix" [.var 6,.var 5]),
  .ife (.cmp (.var 7) [.NotEq] [.lit (.int 0)]) yE []]
noncomputable def yM:List Sm:=[
  .ife (.band [.cmp (.var 3) [.NotEq] [.lit (.int 0)],.cmp (.var 4) [.NotEq] [.lit (.int 0)]]) yI [],
  .assign [.var 9] (.list []),
  .ife (.cmp (.bi .len [.var 5]) [.NotEq] [.lit (.int 0)]) [
   .expr (.me (.var 9) .append [.tup [.attr (.var 0) "DIFF_DELETE",.var 5]])] [],
  .ife (.cmp (.bi .len [.var 6]) [.NotEq] [.lit (.int 0)]) [
   .expr (.me (.var 9) .append [.tup [.attr (.var 0) "DIFF_INSERT",.var 6]])] [],
  .aug 2 .Sub (.bin .Add (.var 3) (.var 4)),
  .assign [.slc (.var 1) (.var 2) (.bin .Add (.bin .Add (.var 2) (.var 3)) (.var 4))] (.var 9),
  .aug 2 .Add (.bin .Add (.bi .len [.var 9]) (.lit (.int 1)))]
noncomputable def zH:List Sm:=[
  .assign [.idx (.var 1) (.bin .Sub (.var 2) (.lit (.int 1)))] (.tup [.idx (.idx (.var 1) (.bin .Sub (.var 2) (.lit (.int 1)))) (.lit (.int 0)),.bin .Add (.idx (.idx (.var 1) (.bin .Sub (.var 2) (.lit (.int 1)))) (.lit (.int 1))) (.idx (.idx (.var 1) (.var 2)) (.lit (.int 1)))]),
  .del (.var 1) (.var 2)]
noncomputable def yF:List Sm:=[
  .ife (.cmp (.bin .Add (.var 3) (.var 4)) [.Gt] [.lit (.int 1)]) yM [
   .ife (.band [.cmp (.var 2) [.NotEq] [.lit (.int 0)],.cmp (.idx (.idx (.var 1) (.bin .Sub (.var 2) (.lit (.int 1)))) (.lit (.int 0))) [.Eq] [.attr (.var 0) "DIFF_EQUAL"]]) zH [
    .aug 2 .Add (.lit (.int 1))]],
  .assign [.var 4] (.lit (.int 0)),
  .assign [.var 3] (.lit (.int 0)),
  .assign [.var 5] (.lit (.str [])),
  .assign [.var 6] (.lit (.str []))]
noncomputable def z6:List Sm:=[
  .ife (.cmp (.idx (.idx (.var 1) (.var 2)) (.lit (.int 0))) [.Eq] [.attr (.var 0) "DIFF_INSERT"]) yJ [
   .ife (.cmp (.idx (.idx (.var 1) (.var 2)) (.lit (.int 0))) [.Eq] [.attr (.var 0) "DIFF_DELETE"]) yG [
    .ife (.cmp (.idx (.idx (.var 1) (.var 2)) (.lit (.int 0))) [.Eq] [.attr (.var 0) "DIFF_EQUAL"]) yF []]]]
noncomputable def za2:List Sm:=[
  .assign [.idx (.var 1) (.var 2)] (.tup [.idx (.idx (.var 1) (.var 2)) (.lit (.int 0)),.bin .Add (.idx (.idx (.var 1) (.bin .Sub (.var 2) (.lit (.int 1)))) (.lit (.int 1))) (.slc (.idx (.idx (.var 1) (.var 2)) (.lit (.int 1))) (.lit .none) (.neg (.bi .len [.idx (.idx (.var 1) (.bin .Sub (.var 2) (.lit (.int 1)))) (.lit (.int 1))])) (.lit .none))]),
  .assign [.idx (.var 1) (.bin .Add (.var 2) (.lit (.int 1)))] (.tup [.idx (.idx (.var 1) (.bin .Add (.var 2) (.lit (.int 1)))) (.lit (.int 0)),.bin .Add (.idx (.idx (.var 1) (.bin .Sub (.var 2) (.lit (.int 1)))) (.lit (.int 1))) (.idx (.idx (.var 1) (.bin .Add (.var 2) (.lit (.int 1)))) (.lit (.int 1)))])]
noncomputable def yA:List Sm:=[
  .ife (.cmp (.idx (.idx (.var 1) (.bin .Sub (.var 2) (.lit (.int 1)))) (.lit (.int 1))) [.NotEq] [.lit (.str [])]) za2 [],
  .del (.var 1) (.bin .Sub (.var 2) (.lit (.int 1))),
  .assign [.var 10] (.lit (.bool true))]
noncomputable def zZ:List Sm:=[
  .assign [.idx (.var 1) (.bin .Sub (.var 2) (.lit (.int 1)))] (.tup [.idx (.idx (.var 1) (.bin .Sub (.var 2) (.lit (.int 1)))) (.lit (.int 0)),.bin .Add (.idx (.idx (.var 1) (.bin .Sub (.var 2) (.lit (.int 1)))) (.lit (.int 1))) (.idx (.idx (.var 1) (.bin .Add (.var 2) (.lit (.int 1)))) (.lit (.int 1)))]),
  .assign [.idx (.var 1) (.var 2)] (.tup [.idx (.idx (.var 1) (.var 2)) (.lit (.int 0)),.bin .Add (.slc (.idx (.idx (.var 1) (.var 2)) (.lit (.int 1))) (.bi .len [.idx (.idx (.var 1) (.bin .Add (.var 2) (.lit (.int 1)))) (.lit (.int 1))]) (.lit .none) (.lit .none)) (.idx (.idx (.var 1) (.bin .Add (.var 2) (.lit (.int 1)))) (.lit (.int 1)))]),
  .del (.var 1) (.bin .Add (.var 2) (.lit (.int 1))),
  .assign [.var 10] (.lit (.bool true))]
noncomputable def zp:List Sm:=[
  .ife (.band [.cmp (.idx (.idx (.var 1) (.bin .Sub (.var 2) (.lit (.int 1)))) (.lit (.int 0))) [.Eq] [.attr (.var 0) "DIFF_EQUAL"],.cmp (.idx (.idx (.var 1) (.bin .Add (.var 2) (.lit (.int 1)))) (.lit (.int 0))) [.Eq] [.attr (.var 0) "DIFF_EQUAL"]]) [
   .ife (.me (.idx (.idx (.var 1) (.var 2)) (.lit (.int 1))) .endswith [.idx (.idx (.var 1) (.bin .Sub (.var 2) (.lit (.int 1)))) (.lit (.int 1))]) yA [
    .ife (.me (.idx (.idx (.var 1) (.var 2)) (.lit (.int 1))) .startswith [.idx (.idx (.var 1) (.bin .Add (.var 2) (.lit (.int 1)))) (.lit (.int 1))]) zZ []]] [],
  .aug 2 .Add (.lit (.int 1))]
noncomputable def zW:List Sm:=[
  .expr (.me (.var 1) .append [.tup [.attr (.var 0) "DIFF_EQUAL",.lit (.str [])]]),
  .assign [.var 2] (.lit (.int 0)),
  .assign [.var 3] (.lit (.int 0)),
  .assign [.var 4] (.lit (.int 0)),
  .assign [.var 5] (.lit (.str [])),
  .assign [.var 6] (.lit (.str [])),
  .whl (.cmp (.var 2) [.Lt] [.bi .len [.var 1]]) z6,
  .ife (.cmp (.idx (.idx (.var 1) (.neg (.lit (.int 1)))) (.lit (.int 1))) [.Eq] [.lit (.str [])]) [
   .expr (.me (.var 1) .pop [])] [],
  .assign [.var 10] (.lit (.bool false)),
  .assign [.var 2] (.lit (.int 1)),
  .whl (.cmp (.var 2) [.Lt] [.bin .Sub (.bi .len [.var 1]) (.lit (.int 1))]) zp,
  .ife (.var 10) [
   .expr (.imeth (.var 0) "diff_cleanupMerge" [.var 1])] []]
noncomputable def pv (p:z8):V:= .tup [.int p.1,.str p.2]
noncomputable def rv (r:Row):List V:=r.map pv
theorem zN (a b:Row):rv (a++b)=rv a++rv b:=List.map_append
theorem zl (a:Row):(rv a).length=a.length:=Ar ..
theorem zji {α β:Type} (f:α→β) (xs:List α) (i:Int):zK (xs.map f) i=(zK xs i).map f:=by
 unfold zK
 rw[Ar]
 cases seqIndex? i xs.length with
 | none=>rfl
 | some j=>simp
theorem zM {α:Type} (A:List α) (x:α) (B:List α) {k:Int} (h:k=(A.length:Nat)):zK (A++x::B) k=some x:=by
 subst h
 rw[zba _ _ (by simp)]
 simp
theorem zuc {α:Type} (A:List α) (x:α) (B:List α) {k:Int} (h:k=(A.length:Nat)):zn4 (A++x::B).length k=some A.length:=by
 subst h
 unfold zn4 seqIndex?
 have e:(if (A.length:Int)<0 then(A.length:Int)+(A++x::B).length else(A.length:Int))=A.length:=if_neg (by exact Bk.mpr (zm 983088 rfl))
 simp only[e]
 rw[if_pos (by simp;exact ze 284198049947185 rfl)];simp
theorem zzx {α:Type} (A:List α) (x y:α) (B:List α):(A++x::B).set A.length y=A++y::B:=by simp
theorem zxq {α:Type} (A:List α) (x:α) (B:List α):(A++x::B).eraseIdx A.length=A++B:=by
 induction A with
 | nil=>rfl
 | cons a A ih=>simpa using ih
noncomputable def Ext (d:Addr) (m m':Mem):Prop:= ∀a o,a≠d→m a=some o→m' a=some o
theorem Ext.refl (d:Addr) (m:Mem):Ext d m m:=fun _ _ _ e=>e
theorem Ext.trans {d:Addr}{m m' m'':Mem} (x:Ext d m m') (y:Ext d m' m''):Ext d m m'':=fun a o h e=>y a o h (x a o h e)
theorem Ext.upd (d:Addr) (m:Mem) (o:O):Ext d m (upd m d o):=fun a x h e=>by rw[upn _ _ h];exact e
theorem Ext.new {d a:Addr}{m:Mem} (h:m a=none) (o:O):Ext d m (Mine.Internal.upd m a o):=fun b x _ e=>by
 rw[upn _ _ (fun q=>by subst q;rw[h] at e;cases e)];exact e
theorem Ext.newIn {d a:Addr}{m m':Mem} (x:Ext d m m') (h:m a=none) (o:O):Ext d m (Mine.Internal.upd m' a o):=fun b y hb e=>by
 rw[upn _ _ (fun q=>by subst q;rw[h] at e;cases e)];exact x b y hb e
section
variable {P:PC}{m:Mem}{K:V→Prop}
theorem zfu (n:Nat) (h:n<1000):zr (n:Int):=zag (zm 1186022025138818233926185 rfl h)
theorem zh {d:Addr}{L:Row}{k:Int}{q:z8} (hm:m d=some (.list (rv L))) (hk:zr k) (hg:zK L k=some q) (h:K (pv q)):zj9 m (.obj d) (.int k) K:=
 ⟨hk,_,pv q,hm,by unfold rv;rw[zji,hg];rfl,h⟩
theorem yN {q:z8} (h:K (.int q.1)):zj9 m (pv q) (.int 0) K:=⟨zfu 0 (by exact Br _),_,rfl,h⟩
theorem z0 {q:z8} (h:K (.str q.2)):zj9 m (pv q) (.int 1) K:=⟨zfu 1 (by exact Nat.le_add_left ..),_,rfl,h⟩
noncomputable def ztd:List String:=["DIFF_DELETE","DIFF_INSERT","DIFF_EQUAL","diff_commonPrefix","diff_commonSuffix","diff_cleanupMerge","diff_main","diff_compute","diff_bisect","diff_bisectSplit","diff_halfMatch","diff_xIndex","diff_text1","diff_text2","diff_levenshtein","diff_cleanupEfficiency"]
noncomputable def zfe (n:String):Bool:=ztd.contains n
noncomputable def zes (P:PC) (m:Mem) (t:Addr):Prop:= ∃dd fs,m t=some (.inst P.cls dd)∧m dd=some (.dict fs)∧∀n,zfe n=true→yD n fs=none
theorem zes.ext {t d:Addr}{m':Mem} (h:zes P m t) (hd: ∃l,m d=some (.list l)) (x:Ext d m m'):zes P m' t:=by
 obtain⟨dd,fs,h1,h2,h3⟩:=h
 obtain⟨l,hl⟩:=hd
 refine⟨dd,fs,x _ _ (fun q=>?_) h1,x _ _ (fun q=>?_) h2,h3⟩
 ·rw[q,hl] at h1;cases h1
 ·rw[q,hl] at h2;cases h2
theorem zd7 {t:Addr}{n:String}{v:V} (h:zes P m t) (hf:zfe n=true) (hc:P.cc n=some v) (q:K v):zhv P m (.obj t) n K:=by
 obtain⟨dd,fs,h1,h2,h3⟩:=h
 refine⟨dd,fs,h1,h2,?_⟩
 rw[h3 n hf]
 exact⟨v,hc,q⟩
theorem zln {t:Addr}{n:String} (h:zes P m t) (hf:zfe n=true): ∃a d fs,V.obj t= .obj a∧m a=some (.inst P.cls d)∧m d=some (.dict fs)∧yD n fs=none:=by
 obtain⟨dd,fs,h1,h2,h3⟩:=h
 exact⟨t,dd,fs,rfl,h1,h2,h3 n hf⟩
end
structure Cm (P:PC):Prop where
 cD:zfe "DIFF_DELETE"=true∧P.cc "DIFF_DELETE"=some (.int (-1))
 cI:zfe "DIFF_INSERT"=true∧P.cc "DIFF_INSERT"=some (.int 1)
 cE:zfe "DIFF_EQUAL"=true∧P.cc "DIFF_EQUAL"=some (.int 0)
 fp:zfe "diff_commonPrefix"=true
 fs:zfe "diff_commonSuffix"=true
 fm:zfe "diff_cleanupMerge"=true
 cp: ∀{s:V} {x y:Tx} {Q:V→Mem→Prop} {m:Mem},sma x.length→sma y.length→Q (.int (lcp x y)) m→P.meth "diff_commonPrefix" [s,.str x,.str y] Q m
 cs: ∀{s:V} {x y:Tx} {Q:V→Mem→Prop} {m:Mem},sma x.length→sma y.length→Q (.int (lcs x y)) m→P.meth "diff_commonSuffix" [s,.str x,.str y] Q m
noncomputable abbrev cmS (t d:Addr) (p cd ci:Int) (td ti:Tx) (x7 x8 x9 x10:Option V) (m:Mem):St:=
 ⟨[some (.obj t),some (.obj d),some (.int p),some (.int cd),some (.int ci),some (.str td),some (.str ti),x7,x8,x9,x10],m⟩
section
variable {P:PC}{Q:Fl→St→Prop}{t d:Addr}{td ti:Tx}{x7 x8 x9 x10:Option V}{m:Mem}
theorem z8s {L:Row}{p cd ci:Int}{q:z8} (hm:m d=some (.list (rv L))) (hp:zr p) (hg:zK L p=some q) (h1:sma ti.length) (h2:sma q.2.length)
  (h:Q .next (cmS t d (p+1) cd (ci+1) td (ti++q.2) x7 x8 x9 x10 m)):zk P yJ Q (cmS t d p cd ci td ti x7 x8 x9 x10 m):=by
 unfold yJ
 walk_at "D"
 refine zh hm hp hg (z0 ?_)
 walk_at "D"
 exact⟨h1,h2,h⟩
theorem z9c {L:Row}{p cd ci:Int}{q:z8} (hm:m d=some (.list (rv L))) (hp:zr p) (hg:zK L p=some q) (h1:sma td.length) (h2:sma q.2.length)
  (h:Q .next (cmS t d (p+1) (cd+1) ci (td++q.2) ti x7 x8 x9 x10 m)):zk P yG Q (cmS t d p cd ci td ti x7 x8 x9 x10 m):=by
 unfold yG
 walk_at "D"
 refine zh hm hp hg (z0 ?_)
 walk_at "D"
 exact⟨h1,h2,h⟩
theorem zit (A B:Row) (q q':z8):(rv (A++q::B)).set A.length (pv q')=rv (A++q'::B):=by
 unfold rv
 rw[List.map_append,List.map_append,List.map_cons,List.map_cons]
 have:=zzx (A.map pv) (pv q) (pv q') (B.map pv)
 rwa [Ar] at this
theorem zlf (A B:Row) (q:z8):(rv (A++q::B)).eraseIdx A.length=rv (A++B):=by
 unfold rv
 rw[List.map_append,List.map_append,List.map_cons]
 have:=zxq (A.map pv) (pv q) (B.map pv)
 rwa [Ar] at this
theorem zne (A B:Row) (q:z8) {k:Int} (h:k=(A.length:Nat)):zn4 (rv (A++q::B)).length k=some A.length:=by
 rw[zl];exact zuc _ _ _ h
theorem zgu {x:Tx}{k:Nat} (h0:0<k) (h:k≤x.length):zcd x (some (-(k:Int))) none=x.drop (x.length-k):=by
 unfold zcd zfj zh5
 simp only[Option.elim]
 rw[zlu h0 h,Bd (by simp)]
theorem ze0 {x:Tx}{k:Nat} (h0:0<k) (h:k≤x.length):zcd x none (some (-(k:Int)))=x.take (x.length-k):=by
 unfold zcd zfj zh5
 simp only[Option.elim]
 rw[zlu h0 h];simp
theorem zov {done:Row} (h:Dn done) (x:Tx):(yL done x).length=done.length+(if done=[] then 1 else 0):=by
 rcases h with rfl | ⟨dn,u,rfl⟩
 ·rfl
 ·rw[zv];simp
theorem zdj {n k:Nat} (h:n≤k) (hk:sma k):sma n:=by unfold sma at *;exact ntr ‹_› ‹_›
theorem z8j (c:Cm P) {done rest:Row}{p cd ci:Int}{k:Nat} (hT:zes P m t) (hm:m d=some (.list (rv (done++rest)))) (hdn:Dn done) (hp:p-cd-ci=(done.length:Int)) (hL:sma (done++rest).length) (hk:k≤ti.length) (hk2:k≤td.length) (h1:sma ti.length) (h2:sma td.length)
  (hu: ∀q∈done,sma q.2.length)
  (h: ∀m' x8 (p':Int),p'=p+(yL done (ti.take k)).length-done.length→m' d=some (.list (rv (yL done (ti.take k)++rest)))→Ext d m m'→Q .next (cmS t d p' cd ci (td.drop k) (ti.drop k) (some (.int k)) x8 x9 x10 m')):
  zk P yH Q (cmS t d p cd ci td ti (some (.int k)) x8 x9 x10 m):=by
 have tail: ∀m' (p':Int) x8',Q .next (cmS t d p' cd ci (td.drop k) (ti.drop k) (some (.int k)) x8' x9 x10 m')→
   zk P [.assign [.var 6] (.slc (.var 6) (.var 7) (.lit .none) (.lit .none)),.assign [.var 5] (.slc (.var 5) (.var 7) (.lit .none) (.lit .none))] Q (cmS t d p' cd ci td ti (some (.int k)) x8' x9 x10 m'):=fun m' p' x8' q=>by
  walk_at "D"
  refine⟨h1,h2,?_⟩
  rw[zQ ti hk,zQ td hk2]
  exact q
 have e0:p-cd-ci-1=(done.length:Int)-1:=Ad (z7k 325127934801976678187923050378786 rfl hp) (z7k 329928379248868648576702830091811 rfl hp)
 have hTd: ∃l,m d=some (.list l):=⟨_,hm⟩
 unfold yH
 refine ssx fun Q1 n1=>?_
 walk_at "D"
 refine n1 _ (ssx fun Q2 n2=>zf fun K kt kf=>?_)
 walk_at "D"
 rw[e0]
 rcases hdn with rfl | ⟨dn,u,rfl⟩
 ·refine zcv (by simp) (kf _ ?_)
  unfold zbd
  refine ssx fun Q3 n3=>?_
  walk_at "D"
  refine⟨hTd,zd7 hT c.cE.1 c.cE.2 ⟨h1,by decide,zfu 0 (by exact Br _),_,hm,by rw[zl];exact hL,n3 _ ?_⟩⟩
  walk_at "D"
  rw[zb4 ti hk]
  exact n2 _ (tail _ _ _ (h _ _ _ (by simp[yL]) (ups _ _ _) (.upd _ _ _)))
 ·have hg:zK (dn++(0,u)::rest) ((dn++[((0:Int),u)]).length-1:Int)=some ((0:Int),u):=zM _ _ _ (by simp)
  have hm':m d=some (.list (rv (dn++(0,u)::rest))):=by rw[hm];simp
  have ht:zr ((dn++[((0:Int),u)]).length-1:Int):=by
   unfold sma at hL;unfold zr;simp at hL ⊢;exact⟨zm 557856390312627249 rfl,ze 329138271839778529921151422634174452776 rfl hL⟩
  refine zax (by simp) (zh hm' ht hg (yN (zd7 hT c.cE.1 c.cE.2 ?_)))
  walk_at "D"
  refine zax rfl (kt _ (ssx fun Q3 n3=>?_))
  walk_at "D"
  refine zh hm' ht hg (yN (zh hm' ht hg (z0 ?_)))
  walk_at "D"
  rw[zb4 ti hk]
  refine⟨h1,hu _ (List.mem_append_right _ (Bv.mpr rfl)),zdj (by simp;exact ze 4952567644712 rfl (Nat.min_le_right _ _)) h1,d,_,_,dn.length,rfl,rfl,ht,hm',zne _ _ _ (by simp),n3 _ (zc (n2 _ (tail _ _ _ (h _ _ _ ?_ ?_ (.upd _ _ _)))))⟩
  ·rw[zv];simp
  ·rw[ups,zv]
   show some (O.list ((rv (dn++(0,u)::rest)).set dn.length (pv (0,u++ti.take k))))=_
   rw[zit];simp
theorem z7s {A rest:Row}{p cd ci:Int}{k:Nat}{tx:Tx} (hm:m d=some (.list (rv (A++(0,tx)::rest)))) (hp:p=(A.length:Int)) (hs:zr p) (h0:0<k) (hk:k≤ti.length) (hk2:k≤td.length) (h1:sma ti.length) (h2:sma td.length) (h3:sma tx.length)
  (h: ∀m',m' d=some (.list (rv (A++(0,ti.drop (ti.length-k)++tx)::rest)))→Ext d m m'→Q .next (cmS t d p cd ci (td.take (td.length-k)) (ti.take (ti.length-k)) (some (.int k)) x8 x9 x10 m')):
  zk P yE Q (cmS t d p cd ci td ti (some (.int k)) x8 x9 x10 m):=by
 unfold yE
 refine ssx fun Q1 n1=>?_
 have hg:zK (A++((0:Int),tx)::rest) p=some ((0:Int),tx):=zM _ _ _ hp
 walk_at "D"
 refine zh hm hs hg (yN ⟨h1,zh hm hs hg (z0 ?_)⟩)
 walk_at "D"
 rw[zgu h0 hk]
 refine⟨zdj (by simp) h1,h3,d,_,_,A.length,rfl,rfl,hs,hm,zne _ _ _ hp,n1 _ ?_⟩
 walk_at "D"
 refine⟨h1,h2,?_⟩
 rw[ze0 h0 hk,ze0 h0 hk2]
 refine h _ ?_ (.upd _ _ _)
 rw[ups]
 exact congrArg (fun l=>some (O.list l)) (zit A rest (0,tx) (0,ti.drop (ti.length-k)++tx))
end
noncomputable def Gr (m m':Mem):Prop:= ∀a o,m a=some o→m' a=some o
theorem Gr.refl (m:Mem):Gr m m:=fun _ _ e=>e
theorem Gr.trans {m m' m'':Mem} (x:Gr m m') (y:Gr m' m''):Gr m m'':=fun a o e=>y a o (x a o e)
theorem Gr.new {a:Addr}{m:Mem} (h:m a=none) (o:O):Gr m (upd m a o):=fun b x e=>by
 rw[upn _ _ (fun q=>by subst q;rw[h] at e;cases e)];exact e
theorem Gr.set {m m':Mem} (x:Gr m m') {a:Addr} (h:m a=none) (o:O):Gr m (upd m' a o):=fun b y e=>by
 rw[upn _ _ (fun q=>by subst q;rw[h] at e;cases e)];exact x b y e
theorem Gr.fresh {m m':Mem} (g:Gr m m') {a:Addr} (h:m' a=none):m a=none:=by
 cases e:m a with
 | none=>rfl
 | some o=>rw[g a o e] at h;cases h
theorem zes.gr {P:PC}{m m':Mem}{t:Addr} (h:zes P m t) (g:Gr m m'):zes P m' t:=by
 obtain⟨dd,fs,h1,h2,h3⟩:=h
 exact⟨dd,fs,g _ _ h1,g _ _ h2,h3⟩
section
variable {P:PC}{Q:Fl→St→Prop}{t d:Addr}{td ti:Tx}{x7 x8 x9 x10:Option V}{m:Mem}
theorem zr2 {q:Trim}:(zX q).done=if lcp q.ti q.td=0 then q.done else yL q.done (q.ti.take (lcp q.ti q.td)):=by
 unfold zX;split<;>rfl
theorem z7n (c:Cm P) {done run rest:Row}{p cd ci:Int}{tx:Tx} (hT:zes P m t) (hm:m d=some (.list (rv (done++(run++(0,tx)::rest))))) (hdn:Dn done) (hr:cd+ci=(run.length:Int)) (hp:p=(done.length+run.length:Nat)) (hL:sma (done++(run++(0,tx)::rest)).length)
  (h1:sma ti.length) (h2:sma td.length) (h3:sma tx.length) (hu: ∀q∈done,sma q.2.length)
  (h: ∀m' x7 x8 (p':Int),p'=((zgo ⟨done,td,ti,tx⟩).done.length+run.length:Nat)→m' d=some (.list (rv ((zgo ⟨done,td,ti,tx⟩).done++(run++(0,(zgo ⟨done,td,ti,tx⟩).t)::rest))))→Ext d m m'→
   Q .next (cmS t d p' cd ci (zgo ⟨done,td,ti,tx⟩).td (zgo ⟨done,td,ti,tx⟩).ti x7 x8 x9 x10 m')):
  zk P yI Q (cmS t d p cd ci td ti x7 x8 x9 x10 m):=by
 have L:=yZ ti td
 unfold yI
 refine ssx fun Q1 n1=>?_
 walk_at "D"
 refine⟨zln hT c.fp,c.cp h1 h2 (n1 _ (ssx fun Q2 n2=>?_))⟩
 have mid: ∀m' x8 (p':Int),p'=((zX ⟨done,td,ti,tx⟩).done.length+run.length:Nat)→m' d=some (.list (rv ((zX ⟨done,td,ti,tx⟩).done++(run++(0,tx)::rest))))→Ext d m m'→
   Q2 .next (cmS t d p' cd ci (zX ⟨done,td,ti,tx⟩).td (zX ⟨done,td,ti,tx⟩).ti (some (.int (lcp ti td:Nat))) x8 x9 x10 m'):=fun m' x8 p' hp' hm' hx=>by
  have s1:sma (zX ⟨done,td,ti,tx⟩).ti.length:=by unfold zX;split<;>first | exact h1 | exact zdj (by simp) h1
  have s2:sma (zX ⟨done,td,ti,tx⟩).td.length:=by unfold zX;split<;>first | exact h2 | exact zdj (by simp) h2
  have ht:(zX ⟨done,td,ti,tx⟩).t=tx:=by unfold zX;split<;>rfl
  have e:zgo ⟨done,td,ti,tx⟩=zgy (zX ⟨done,td,ti,tx⟩):=rfl
  rw[e] at h
  have hdA:(zgy (zX ⟨done,td,ti,tx⟩)).done=(zX ⟨done,td,ti,tx⟩).done:=(zoe _).2
  have hLA:sma (zX ⟨done,td,ti,tx⟩).done.length:=by
   have:(zX ⟨done,td,ti,tx⟩).done.length≤done.length+1:=by
    rw[zr2];dsimp only;split
    ·exact Bc ..
    ·rw[zov hdn];split
     ·exact zm 550431102008 rfl
     ·exact zm 550426907704 rfl
   refine zdj this ?_
   unfold sma at hL ⊢;simp at hL;exact zj 5341368351015077358781654100418656998440 rfl hL
  have hLr:sma run.length:=zdj (by simp;exact zj 572433917149752 rfl) hL
  generalize zX ⟨done,td,ti,tx⟩=q at *
  have L2:=zgk q.ti q.td
  refine n2 _ (ssx fun Q3 n3=>?_)
  walk_at "D"
  refine⟨zln (hT.ext ⟨_,hm⟩ hx) c.fs,c.cs s1 s2 (n3 _ (ssx fun Q4 n4=>zf fun K kt kf=>?_))⟩
  walk_at "D"
  by_cases hz:lcs q.ti q.td=0
  ·have eB:zgy q=q:=by unfold zgy;rw[if_pos hz]
   rw[eB,ht] at h
   rw[show(!decide ((lcs q.ti q.td:Int)=0))=false by simp[hz]]
   exact kf _ (zc (n4 _ (zc (h _ _ _ _ hp' hm' hx))))
  ·have eB:zgy q=⟨q.done,q.td.take (q.td.length-lcs q.ti q.td),q.ti.take (q.ti.length-lcs q.ti q.td),q.ti.drop (q.ti.length-lcs q.ti q.td)++q.t⟩:=by unfold zgy;rw[if_neg hz]
   rw[eB,ht] at h
   rw[show(!decide ((lcs q.ti q.td:Int)=0))=true by simp[hz]]
   have e3:q.done++(run++((0:Int),tx)::rest)=(q.done++run)++((0:Int),tx)::rest:=by simp
   refine kt _ (z7s (A:=q.done++run) (by rw[hm',e3]) (by rw[hp',Aa]) ?_ (by lia) L2.1 L2.2 s1 s2 h3 fun m'' hm'' hx'=>n4 _ (zc (h _ _ _ _ hp' ?_ (hx.trans hx'))))
   ·unfold sma at hLA hLr;unfold zr;exact⟨yR 3673278136126876308094365219 rfl hp',yR 379470591593214323559968943308116495891612989199642264104 rfl hLr hp' hLA⟩
   ·rw[hm''];simp
 refine zf fun K kt kf=>?_
 walk_at "D"
 by_cases hz:lcp ti td=0
 ·have eA:zX ⟨done,td,ti,tx⟩=⟨done,td,ti,tx⟩:=by unfold zX;rw[if_pos hz]
  rw[eA] at mid
  rw[show(!decide ((lcp ti td:Int)=0))=false by simp[hz]]
  exact kf _ (zc (mid _ _ _ hp hm (.refl _ _)))
 ·have eA:zX ⟨done,td,ti,tx⟩=⟨yL done (ti.take (lcp ti td)),td.drop (lcp ti td),ti.drop (lcp ti td),tx⟩:=by unfold zX;rw[if_neg hz]
  rw[eA] at mid
  rw[show(!decide ((lcp ti td:Int)=0))=true by simp[hz]]
  have hpp:p-cd-ci=(done.length:Int):=Ad (z9y 25659805952991739034726267073076771 rfl hr hp) (z9y 23388379070535562985720085704348706 rfl hr hp)
  refine kt _ (z8j c (done:=done) (rest:=run++(0,tx)::rest) hT hm hdn hpp hL L.1 L.2 h1 h2 hu fun m' x8 p' hp' hm' hx=>mid _ _ _ ?_ hm' hx)
  dsimp only
  rw[hp',hp];exact Ad (zj 2696359672783687099952 rfl) (zj 5276311808494914285104 rfl)
theorem zul {A run new rest:Row}:(rv (A++(run++rest))).take (zfj (rv (A++(run++rest))).length (some (A.length:Int)))++rv new++(rv (A++(run++rest))).drop (max (zfj (rv (A++(run++rest))).length (some (A.length:Int))) (zh5 (rv (A++(run++rest))).length (some ((A.length+run.length:Nat):Int))))=rv (A++(new++rest)):=by
 have e1:min A.length (A.length+(run.length+rest.length))=A.length:=Aw (Bc ..)
 have e2:min (A.length+run.length) (A.length+(run.length+rest.length))=A.length+run.length:=Aw (Nat.add_le_add_left (Bc ..) _)
 unfold zfj zh5
 simp only[Option.elim,zfl,zl,Aa]
 rw[e1,e2,Nat.max_eq_right (Bc ..),zN,zN,zN,zN,List.take_left' (zl A),←Ah (rv A),List.drop_left' (by rw[Aa,zl,zl]),Ah]
theorem z6h {a:Addr}{A run rest new:Row}{p cd ci:Int} (had:a≠d) (hm:m d=some (.list (rv (A++(run++rest))))) (ha:m a=some (.list (rv new))) (hr:cd+ci=(run.length:Int)) (hp:p=(A.length+run.length:Nat)) (hL:sma (A++(run++rest)).length) (sz:sma new.length)
  (h: ∀m' (p':Int),p'=(A.length+new.length+1:Nat)→m' d=some (.list (rv (A++(new++rest))))→Ext d m m'→Q .next (cmS t d p' cd ci td ti x7 x8 (some (.obj a)) x10 m')):
  zk P [.aug 2 .Sub (.bin .Add (.var 3) (.var 4)),
  .assign [.slc (.var 1) (.var 2) (.bin .Add (.bin .Add (.var 2) (.var 3)) (.var 4))] (.var 9),
  .aug 2 .Add (.bin .Add (.bi .len [.var 9]) (.lit (.int 1)))] Q (cmS t d p cd ci td ti x7 x8 (some (.obj a)) x10 m):=by
 refine ssx fun Q2 n2=>?_
 walk_at "D"
 rw[show p-(cd+ci)=(A.length:Int) by rw[hr,hp];exact Ad (ze 66310302430768 rfl) (ze 347755278507568 rfl)]
 refine n2 _ (ssx fun Q3 n3=>?_)
 walk_at "D"
 have e:(A.length:Int)+cd+ci=((A.length+run.length:Nat):Int):=Ad (zuj 332117248822774835502912546 rfl hr) (zuj 2787970137899503999807135267 rfl hr)
 refine⟨d,a,some (A.length:Int),some ((A.length+run.length:Nat):Int),_,_,rfl,rfl,rfl,by rw[e];rfl,Ne.symm had,hm,ha,by rw[zl];exact hL,by rw[zl];exact sz,n3 _ ?_⟩
 walk_at "D"
 refine⟨_,.inl (by rw[upn _ _ had];exact ha),by rw[zl];exact sz,h _ _ (by rw[zl];rfl) ?_ (.upd _ _ _)⟩
 rw[ups]
 exact congrArg (fun l=>some (O.list l)) zul
theorem zv1 {x:Tx} (h:x≠[]):(!decide ((x.length:Int)=0))=true:=by cases x with | nil=>exact absurd rfl h | cons=>simp;grind
theorem z37 (c:Cm P) {a:Addr}{l:Row} (hT:zes P m t) (had:a≠d) (hm: ∃l,m d=some (.list l)) (ha:m a=some (.list (rv l))) (hl:l.length≤1) (h1:sma ti.length) {p cd ci:Int}
  (h: ∀m',m' d=m d→m' a=some (.list (rv (l++if ti=[] then[] else[(1,ti)])))→(∀m0,Ext d m0 m→m0 a=none→Ext d m0 m')→Q .next (cmS t d p cd ci td ti x7 x8 (some (.obj a)) x10 m')):
  wpS P (.ife (.cmp (.bi .len [.var 6]) [.NotEq] [.lit (.int 0)]) [.expr (.me (.var 9) .append [.tup [.attr (.var 0) "DIFF_INSERT",.var 6]])] []) Q (cmS t d p cd ci td ti x7 x8 (some (.obj a)) x10 m):=by
 refine zf fun K kt kf=>?_
 walk_at "D"
 refine⟨h1,?_⟩
 by_cases hz:ti=[]
 ·subst hz
  exact kf _ (zc (h _ rfl (by rw[if_pos rfl,Ag];exact ha) fun _ e _=>e))
 ·rw[zv1 hz]
  refine kt _ (ssx fun Q4 n4=>?_)
  walk_at "D"
  refine⟨⟨_,ha⟩,zd7 hT c.cI.1 c.cI.2 ⟨_,ha,by rw[zl];exact ntr hl (by decide),n4 _ (zc (h _ (upn _ _ (Ne.symm had)) (by rw[ups,if_neg hz,zN];rfl) fun _ e hn=>e.newIn hn _))⟩⟩
theorem z1a (c:Cm P) {A run:Row}{rest:Row}{p cd ci:Int}{cdn cin:Nat} (hT:zes P m t) (hm:m d=some (.list (rv (A++(run++rest))))) (hr:cd+ci=(run.length:Int)) (hp:p=(A.length+run.length:Nat)) (hc0:0≤cd) (hc1:0≤ci) (hL:sma (A++(run++rest)).length) (h1:sma ti.length) (h2:sma td.length)
  (h: ∀m' x9 (p':Int),p'=(A.length+(ops td ti).length+1:Nat)→m' d=some (.list (rv (A++(ops td ti++rest))))→Ext d m m'→Q .next (cmS t d p' cd ci td ti x7 x8 x9 x10 m')):
  zk P [.assign [.var 9] (.list []),
  .ife (.cmp (.bi .len [.var 5]) [.NotEq] [.lit (.int 0)]) [
   .expr (.me (.var 9) .append [.tup [.attr (.var 0) "DIFF_DELETE",.var 5]])] [],
  .ife (.cmp (.bi .len [.var 6]) [.NotEq] [.lit (.int 0)]) [
   .expr (.me (.var 9) .append [.tup [.attr (.var 0) "DIFF_INSERT",.var 6]])] [],
  .aug 2 .Sub (.bin .Add (.var 3) (.var 4)),
  .assign [.slc (.var 1) (.var 2) (.bin .Add (.bin .Add (.var 2) (.var 3)) (.var 4))] (.var 9),
  .aug 2 .Add (.bin .Add (.bi .len [.var 9]) (.lit (.int 1)))] Q (cmS t d p cd ci td ti x7 x8 x9 x10 m):=by
 refine ssx fun Q1 n1=>?_
 walk_at "D"
 intro a ha
 refine n1 _ ?_
 have had:a≠d:=fun q=>by subst q;rw[hm] at ha;exact(Am _ ha).elim
 have sz:sma (ops td ti).length:=zdj (k:=2) (by unfold ops;split<;>split<;>simp) (by unfold sma;exact Nat.le_add_left ..)
 have r1:(upd m a (O.list [])) d=some (.list (rv (A++(run++rest)))):=by rw[upn _ _ (Ne.symm had)];exact hm
 refine ssx fun Q2 n2=>zf fun K kt kf=>?_
 walk_at "D"
 refine⟨h2,?_⟩
 have two: ∀m2,m2 d=some (.list (rv (A++(run++rest))))→m2 a=some (.list (rv (if td=[] then[] else[(-1,td)])))→Ext d m m2→Q2 .next (cmS t d p cd ci td ti x7 x8 (some (.obj a)) x10 m2):=fun m2 g1 g2 g4=>
  n2 _ (ssx fun Q3 n3=>z37 c (hT.ext ⟨_,hm⟩ g4) had ⟨_,g1⟩ g2 (by split<;>simp) h1 fun m3 e1 e2 e3=>n3 _ (z6h (new:=ops td ti) had (e1.trans g1) e2 hr hp hL sz fun m' p' a1 a2 a3=>h m' _ p' a1 a2 ((e3 m g4 ha).trans a3)))
 by_cases hz:td=[]
 ·subst hz
  exact kf _ (zc (two _ r1 (ups _ _ _) (.new ha _)))
 ·rw[zv1 hz]
  refine kt _ (ssx fun Q4 n4=>?_)
  walk_at "D"
  refine⟨⟨[],ups _ _ _⟩,zd7 (hT.ext ⟨_,hm⟩ (.new ha _)) c.cD.1 c.cD.2 ⟨[],ups _ _ _,by unfold sma;simp,n4 _ (zc (two _ ?_ ?_ ?_))⟩⟩
  ·rw[upn _ _ (Ne.symm had)];exact r1
  ·rw[ups,if_neg hz];rfl
  ·rw[zu0];exact .new ha _
end
section
variable {P:PC}{Q:Fl→St→Prop}{t d:Addr}{td ti:Tx}{x7 x8 x9 x10:Option V}{m:Mem}
theorem zqa (k:Int) (r:Row):(cat k r).length≤phi r:=by
 induction r with
 | nil=>simp[cat]
 | cons p r ih=>
  simp only[zdf,zd,Aa]
  split
  ·exact zj 5350178409015476290088 rfl ih
  ·simp only[List.length_nil];exact zj 5350178408431360737832 rfl ih
theorem zvr (q:Trim):(zgo q).ti.length≤q.ti.length∧(zgo q).td.length≤q.td.length:=by
 have a:(zX q).ti.length≤q.ti.length∧(zX q).td.length≤q.td.length:=by unfold zX;split<;>simp
 have b:(zgo q).ti.length≤(zX q).ti.length∧(zgo q).td.length≤(zX q).td.length:=by unfold zgo zgy;split<;>simp
 exact⟨zj 42121604987949220392 rfl a.1 b.1,zj 42121604987949220392 rfl a.2 b.2⟩
theorem z8e (c:Cm P) {done run rest:Row}{p:Int}{tx:Tx} (hT:zes P m t) (hm:m d=some (.list (rv (done++(run++(0,tx)::rest))))) (hdn:Dn done) (hr:Run run) (hp:p=(done.length+run.length:Nat)) (hφ:phi (done++(run++(0,tx)::rest))≤1000)
  (h: ∀m' td' ti' x7 x8 x9 (p':Int),p'=(zsc (zdk done run tx)).length→m' d=some (.list (rv (zsc (zdk done run tx)++rest)))→Ext d m m'→Q .next (cmS t d p' (cnt (-1) run) (cnt 1 run) td' ti' x7 x8 x9 x10 m')):
  zk P yM Q (cmS t d p (cnt (-1) run) (cnt 1 run) (cat (-1) run) (cat 1 run) x7 x8 x9 x10 m):=by
 have hc:=zvl hr
 have hL:=llp (done++(run++(0,tx)::rest))
 have φ1:phi done+(phi run+(tx.length+1+phi rest))≤1000:=by rw[pha,pha,zd] at hφ;exact hφ
 have c1:=zqa 1 run
 have c2:=zqa (-1) run
 have s1:sma (cat 1 run).length:=by unfold sma;exact zd8 10939122386951528412351508485247778046350376 rfl φ1 c1
 have s2:sma (cat (-1) run).length:=by unfold sma;exact zd8 10939122386951528412351508485247778046350376 rfl φ1 c2
 have tail: ∀m' td' ti' x7 x8 (p':Int) (q:Trim),q=zdk done run tx→td'=q.td→ti'=q.ti→p'=(q.done.length+run.length:Nat)→m' d=some (.list (rv (q.done++(run++(0,q.t)::rest))))→Ext d m m'→td'.length≤1000→ti'.length≤1000→
   zk P [.assign [.var 9] (.list []),
  .ife (.cmp (.bi .len [.var 5]) [.NotEq] [.lit (.int 0)]) [
   .expr (.me (.var 9) .append [.tup [.attr (.var 0) "DIFF_DELETE",.var 5]])] [],
  .ife (.cmp (.bi .len [.var 6]) [.NotEq] [.lit (.int 0)]) [
   .expr (.me (.var 9) .append [.tup [.attr (.var 0) "DIFF_INSERT",.var 6]])] [],
  .aug 2 .Sub (.bin .Add (.var 3) (.var 4)),
  .assign [.slc (.var 1) (.var 2) (.bin .Add (.bin .Add (.var 2) (.var 3)) (.var 4))] (.var 9),
  .aug 2 .Add (.bin .Add (.bi .len [.var 9]) (.lit (.int 1)))] Q (cmS t d p' (cnt (-1) run) (cnt 1 run) td' ti' x7 x8 x9 x10 m'):=fun m' td' ti' x7 x8 p' q hq e1 e2 hp' hm' hx z1 z2=>by
  subst e1;subst e2
  have hw:tw q≤phi done+(cat (-1) run).length+(cat 1 run).length+tx.length:=by
   rw[hq];unfold zdk
   split
   ·exact(z0c _ hdn).1
   ·exact Al _
  have lq:=llp q.done
  have lr:=llp rest
  have lrun:=llp run
  refine z1a c (A:=q.done) (run:=run) (rest:=(0,q.t)::rest) (cdn:=0) (cin:=0) (hT.ext ⟨_,hm⟩ hx) hm' (by exact Ad (zj 5278615617020566705194 rfl hc) (zj 5278624153628844884523 rfl hc)) hp' (by exact zm 983088 rfl) (by exact zm 983088 rfl) ?_ (by unfold sma;exact zm 1186022025138818233926184 rfl z2) (by unfold sma;exact zm 1186022025138818233926184 rfl z1) fun m'' x9' p'' hp'' hm'' hx'=>?_
  ·unfold tw at hw
   unfold sma
   simp only[Aa,List.length_cons]
   exact z77 2415969534183581835928953690410060346463956696788879862965551810211554355340432613864182374438238256907461378184296 rfl φ1 c1 c2 hw lq lr lrun
  ·have e:zsc (zdk done run tx)++rest=q.done++(ops q.td q.ti++(0,q.t)::rest):=by rw[←hq];unfold zsc;simp
   refine h _ _ _ _ _ _ _ ?_ (by rw[e];exact hm'') (hx.trans hx')
   rw[hp'',←hq];unfold zsc
   simp only[Aa,List.length_singleton]
 unfold yM
 refine ssx fun Q1 n1=>zf fun K kt kf=>?_
 walk_at "D"
 by_cases hb:cnt (-1) run≠0∧cnt 1 run≠0
 ·have eR:zdk done run tx=zgo ⟨done,cat (-1) run,cat 1 run,tx⟩:=by unfold zdk;rw[if_pos hb]
  rw[show(!decide ((cnt (-1) run:Int)=0))=true by simp[hb.1],show(!decide ((cnt 1 run:Int)=0))=true by simp[hb.2],if_pos rfl,if_pos rfl]
  have tl:=zvr ⟨done,cat (-1) run,cat 1 run,tx⟩
  refine kt _ (z7n c (done:=done) (run:=run) (rest:=rest) hT hm hdn (by exact Ad (zj 5278615617020566705194 rfl hc) (zj 5278624153628844884523 rfl hc)) hp (by unfold sma;exact ze 9949073849436249927004832399912 rfl hφ hL) s1 s2 (by unfold sma;exact zT 1304045007748055038584015782599988264 rfl φ1) (fun q hq=>by have:=zbt hq;unfold sma;exact zd8 10939122386951508605348658851026336822072360 rfl φ1 this) fun m' x7 x8 p' hp' hm' hx=>
   n1 _ (tail m' _ _ x7 x8 p' _ eR.symm rfl rfl hp' hm' hx (by dsimp only at tl;exact zn7 11362285634525111567536380892225494673024619560 rfl φ1 c2 tl.2) (by dsimp only at tl;exact zn7 11362285634525111567536380892225494673024619560 rfl φ1 c1 tl.1)))
 ·have eR:zdk done run tx=⟨done,cat (-1) run,cat 1 run,tx⟩:=by unfold zdk;rw[if_neg hb]
  have go:=n1 _ (tail m _ _ x7 x8 p _ eR.symm rfl rfl hp hm (.refl _ _) (by dsimp only;exact zd8 1354488700030995791121672987197286913064 rfl φ1 c2) (by dsimp only;exact zd8 1354488700030995791121672987197286913064 rfl φ1 c1))
  by_cases h0:cnt (-1) run=0
  ·rw[show(!decide ((cnt (-1) run:Int)=0))=false by simp[h0],if_neg (by decide)]
   exact kf _ (zc go)
  ·have h0':cnt 1 run=0:=Classical.byContradiction fun q=>hb ⟨h0,q⟩
   rw[show(!decide ((cnt (-1) run:Int)=0))=true by simp[h0],if_pos rfl,show(!decide ((cnt 1 run:Int)=0))=false by simp[h0'],if_neg (by decide)]
   exact kf _ (zc go)
theorem z81 {dn rest:Row}{p:Int}{u tx:Tx}{cd ci:Int} (hm:m d=some (.list (rv (dn++(0,u)::(0,tx)::rest)))) (hp:p=(dn.length+1:Nat)) (hφ:phi (dn++(0,u)::(0,tx)::rest)≤1000)
  (h: ∀m',m' d=some (.list (rv (dn++(0,u++tx)::rest)))→Ext d m m'→Q .next (cmS t d p cd ci td ti x7 x8 x9 x10 m')):
  zk P zH Q (cmS t d p cd ci td ti x7 x8 x9 x10 m):=by
 have hL:=llp (dn++(0,u)::(0,tx)::rest)
 rw[pha,zd,zd] at hφ
 have e1:p-1=(dn.length:Int):=Ad (zbr 69463910983491060258 rfl hp) (zbr 295544753011248115235 rfl hp)
 have g1:zK (dn++((0:Int),u)::(0,tx)::rest) (dn.length:Int)=some ((0:Int),u):=zM _ _ _ rfl
 have e2:dn++((0:Int),u)::(0,tx)::rest=(dn++[(0,u)])++(0,tx)::rest:=by simp
 have g2:zK (dn++((0:Int),u)::(0,tx)::rest) p=some ((0:Int),tx):=by rw[e2];exact zM _ _ _ (by simp;exact Ad (zbr 295697382817809831458 rfl e1) (zbr 39203626952863260195 rfl e1))
 simp only[Aa,List.length_cons] at hL
 rw[pha,zd,zd] at hL
 have t1:zr (dn.length:Int):=zag (zn7 13541977597450406370422149074579151689416707457247830364237117170652200 rfl hφ hL)
 have t2:zr p:=by exact⟨zbr 3673278136126876308090170915 rfl hp,z30 7516189425032803737762868538778442895451787361193018096623007163642829630066902106658 rfl hp hφ hL⟩
 dsimp only at hφ hL
 unfold zH
 refine ssx fun Q1 n1=>?_
 walk_at "D"
 rw[e1]
 refine zh hm t1 g1 (yN (zh hm t1 g1 (z0 (zh hm t2 g2 (z0 ?_)))))
 walk_at "D"
 refine⟨by unfold sma;exact zT 1335342087775552034481503486190237520936 rfl hφ,by unfold sma;exact zT 1335342087934008359510032161377325421608 rfl hφ,d,_,_,dn.length,rfl,rfl,t1,hm,zne _ _ _ rfl,n1 _ (ssx fun Q2 n2=>?_)⟩
 walk_at "D"
 have hm2:upd m d (O.list ((rv (dn++(0,u)::(0,tx)::rest)).set dn.length (V.tup [V.int 0,V.str (u++tx)]))) d=some (.list (rv ((dn++[(0,u++tx)])++(0,tx)::rest))):=by
  rw[ups]
  refine congrArg (fun l=>some (O.list l)) ((zit dn ((0,tx)::rest) (0,u) (0,u++tx)).trans ?_)
  simp
 refine⟨d,p,_,_,rfl,rfl,t2,hm2,zne _ _ _ (by simp;exact Ad (zbr 295697382817809831458 rfl e1) (zbr 39203626952863260195 rfl e1)),?_,n2 _ (zc (h _ ?_ ?_))⟩
 ·rw[zl];unfold sma;simp;exact zn7 14540587720651898769233409601520218458399988015033348640950438053819416587539496 rfl hφ hL
 ·rw[ups]
  refine congrArg (fun l=>some (O.list l)) ?_
  have:=zlf (dn++[(0,u++tx)]) rest (0,tx)
  rw[this];simp
 ·exact(Ext.upd _ _ _).trans (.upd _ _ _)
noncomputable def zrh:List Sm:=[
   .ife (.band [.cmp (.var 2) [.NotEq] [.lit (.int 0)],.cmp (.idx (.idx (.var 1) (.bin .Sub (.var 2) (.lit (.int 1)))) (.lit (.int 0))) [.Eq] [.attr (.var 0) "DIFF_EQUAL"]]) zH [
    .aug 2 .Add (.lit (.int 1))]]
theorem z4p {cd ci:Int} (h:Q .next (cmS t d 1 cd ci td ti x7 x8 x9 x10 m)):zk P zrh Q (cmS t d 0 cd ci td ti x7 x8 x9 x10 m):=by
 unfold zrh
 refine ssn (zf fun K kt kf=>?_)
 walk_at "D"
 rw[show(!decide ((0:Int)=0))=false from rfl,if_neg Au]
 exact kf _ h
theorem z2t (c:Cm P) {dn rest:Row}{p:Int}{u tx:Tx}{cd ci:Int} (hT:zes P m t) (hm:m d=some (.list (rv (dn++(0,u)::(0,tx)::rest)))) (hp:p=(dn.length+1:Nat)) (hφ:phi (dn++(0,u)::(0,tx)::rest)≤1000)
  (h: ∀m',m' d=some (.list (rv (dn++(0,u++tx)::rest)))→Ext d m m'→Q .next (cmS t d p cd ci td ti x7 x8 x9 x10 m')):zk P zrh Q (cmS t d p cd ci td ti x7 x8 x9 x10 m):=by
 have hL:=llp (dn++((0:Int),u)::(0,tx)::rest)
 rw[Aa] at hL
 unfold zrh
 refine ssn (zf fun K kt kf=>?_)
 walk_at "D"
 rw[show(!decide (p=0))=true by simp;lia,if_pos rfl]
 refine zh hm (by exact⟨zbr 20310841682573504905753323941411 rfl hp,zbb 5790261712543016698764660168978302715149654020260386 rfl hp hφ hL⟩) (zM _ _ _ (by exact Ad (zbr 69463910983491060258 rfl hp) (zbr 295544753011248115235 rfl hp))) (yN (zd7 hT c.cE.1 c.cE.2 ?_))
 walk_at "D"
 exact zax rfl (kt _ (z81 hm hp hφ h))
theorem z36 (c:Cm P) {done rest:Row}{p:Int}{e:z8}{tx:Tx}{cd ci:Int} (hT:zes P m t) (hm:m d=some (.list (rv (done++e::(0,tx)::rest)))) (hp:p=(done.length+1:Nat)) (hl:done.length≤1000) (he:e.1≠0)
  (h:Q .next (cmS t d (p+1) cd ci td ti x7 x8 x9 x10 m)):zk P zrh Q (cmS t d p cd ci td ti x7 x8 x9 x10 m):=by
 unfold zrh
 refine ssn (zf fun K kt kf=>?_)
 walk_at "D"
 rw[show(!decide (p=0))=true by simp;lia,if_pos rfl]
 refine zh hm (by exact⟨zbr 20310841682573504905753323941411 rfl hp,zbr 674075180727874010191966771033397259600418 rfl hp hl⟩) (zM _ _ _ (by exact Ad (zbr 69463910983491060258 rfl hp) (zbr 295544753011248115235 rfl hp))) (yN (zd7 hT c.cE.1 c.cE.2 ?_))
 walk_at "D"
 exact zcv he (kf _ h)
theorem z80 (c:Cm P) {done run rest:Row}{p:Int}{tx:Tx} (hT:zes P m t) (hm:m d=some (.list (rv (done++(run++(0,tx)::rest))))) (hdn:Dn done) (hr:Run run) (hp:p=(done.length+run.length:Nat)) (hφ:phi (done++(run++(0,tx)::rest))≤1000)
  (h: ∀m' x7 x8 x9 (p':Int),p'=(zs done run tx).length→m' d=some (.list (rv (zs done run tx++rest)))→Ext d m m'→Q .next (cmS t d p' 0 0 [] [] x7 x8 x9 x10 m')):
  zk P yF Q (cmS t d p (cnt (-1) run) (cnt 1 run) (cat (-1) run) (cat 1 run) x7 x8 x9 x10 m):=by
 have hc:=zvl hr
 have tail: ∀m' td' ti' x7 x8 x9 (p' cd ci:Int),p'=(zs done run tx).length→m' d=some (.list (rv (zs done run tx++rest)))→Ext d m m'→
   zk P [.assign [.var 4] (.lit (.int 0)),.assign [.var 3] (.lit (.int 0)),.assign [.var 5] (.lit (.str [])),.assign [.var 6] (.lit (.str []))] Q (cmS t d p' cd ci td' ti' x7 x8 x9 x10 m'):=fun m' td' ti' x7 x8 x9 p' cd ci e hm' hx=>by
  walk_at "D"
  exact h _ _ _ _ _ e hm' hx
 unfold yF
 refine ssx fun Q1 n1=>zf fun K kt kf=>?_
 walk_at "D"
 by_cases hb:1<run.length
 ·rw[show decide ((1:Int)<(cnt (-1) run:Int)+(cnt 1 run:Int))=true by simp;exact zj 5535038829586008233390768683 rfl hc hb]
  have eS:zs done run tx=zsc (zdk done run tx):=by unfold zs;rw[if_pos hb]
  exact kt _ (z8e c hT hm hdn hr hp hφ fun m' td' ti' x7 x8 x9 p' hp' hm' hx=>n1 _ (tail _ _ _ _ _ _ _ _ _ (by rw[eS];exact hp') (by rw[eS];exact hm') hx))
 ·rw[show decide ((1:Int)<(cnt (-1) run:Int)+(cnt 1 run:Int))=false by simp;exact zj 2499760867977046720470586410 rfl hc hb]
  have hL:=llp (done++(run++(0,tx)::rest))
  rw[Aa] at hL
  refine kf _ ?_
  by_cases hn:run=[]
  ·subst hn
   rcases hdn with rfl | ⟨dn,u,rfl⟩
   ·obtain rfl:p=0:=hp
    exact z4p (n1 _ (tail _ _ _ _ _ _ _ _ _ rfl hm (.refl _ _)))
   ·have eS:zs (dn++[((0:Int),u)]) [] tx=dn++[(0,u++tx)]:=by
     unfold zs;rw[if_neg (by decide),if_pos ⟨rfl,List.append_ne_nil_of_right_ne_nil _ (List.cons_ne_nil _ _)⟩,zv]
    have ea: ∀{q:z8} {l:Row},dn++[q]++l=dn++q::l:=Ah ..
    rw[List.nil_append,ea] at hm hφ
    have hp':p=(dn.length+1:Nat):=by rw[hp,Aa];rfl
    exact z2t c hT hm hp' hφ fun m' hm'' hx=>n1 _ (tail _ _ _ _ _ _ _ _ _ (by rw[eS,hp',Aa];rfl) (by rw[eS,ea];exact hm'') hx)
  ·obtain⟨e,rfl⟩: ∃e,run=[e]:=by
    cases run with
    | nil=>exact absurd rfl hn
    | cons e r=>cases r with
     | nil=>exact⟨e,rfl⟩
     | cons=>exact absurd (Nat.succ_lt_succ (Br _)) hb
   have eS:zs done [e] tx=done++[e]++[(0,tx)]:=rfl
   have he:e.1≠0:=by rcases hr e (Bv.mpr rfl) with q | q<;>rw[q]<;>decide
   exact z36 c hT hm hp (by exact zj 1261462276604245647608093082152 rfl hφ hL) he (n1 _ (tail _ _ _ _ _ _ _ _ _ (by rw[eS,hp,Aa,Aa];rfl) (by rw[eS,hm,Ah,Ah];rfl) (.refl _ _)))
end
theorem zll {d:Addr}{L:Row}{m:Mem}{K:V→Mem→Prop} (hm:m d=some (.list (rv L))) (hs:sma L.length) (h:K (.int L.length) m):zsj m .len [.obj d] K:=
 ⟨_,.inl hm,by rw[zl];exact hs,by rw[zl];exact h⟩
section
variable {P:PC}{Q:Fl→St→Prop}{t d:Addr}{x7 x8 x9 x10:Option V}{m:Mem}
noncomputable abbrev cmR (t d:Addr) (done run:Row) (x7 x8 x9 x10:Option V) (m:Mem):St:=
 cmS t d (done.length+run.length:Nat) (cnt (-1) run) (cnt 1 run) (cat (-1) run) (cat 1 run) x7 x8 x9 x10 m
theorem z43 (c:Cm P) {done run rest:Row}{q:z8} (hT:zes P m t) (hm:m d=some (.list (rv (done++(run++q::rest))))) (hdn:Dn done) (hr:Run run) (hq:zwq q.1) (hφ:phi (done++(run++q::rest))≤1000)
  (h0:q.1=0→∀m' x7 x8 x9,m' d=some (.list (rv (zs done run q.2++rest)))→Ext d m m'→Q .next (cmR t d (zs done run q.2) [] x7 x8 x9 x10 m'))
  (h1:q.1≠0→Q .next (cmR t d done (run++[q]) x7 x8 x9 x10 m)):
  zk P z6 Q (cmR t d done run x7 x8 x9 x10 m):=by
 have e1:done++(run++q::rest)=(done++run)++q::rest:=by simp
 have hg:zK (done++(run++q::rest)) ((done.length+run.length:Nat):Int)=some q:=by rw[e1];exact zM _ _ _ (by simp)
 have hL:=llp (done++(run++q::rest))
 have φ1:phi done+(phi run+(q.2.length+1+phi rest))≤1000:=by rw[pha,pha,zd] at hφ;exact hφ
 have c1:=zqa 1 run
 have c2:=zqa (-1) run
 simp only[Aa,List.length_cons] at hL
 have ht:zr ((done.length+run.length:Nat):Int):=zag (zT 10939122384349353053716860182873696762855976 rfl hφ hL)
 unfold z6
 refine ssx fun Q1 n1=>zf fun K kt kf=>?_
 walk_at "D"
 refine zh hm ht hg (yN (zd7 hT c.cI.1 c.cI.2 ?_))
 walk_at "D"
 have cast: ∀n:Nat,((n:Int)+1)=((n+1:Nat):Int):=fun n=>rfl
 have run':q.1≠0→∀(p cd ci:Int) (td ti:Tx),p=(done.length+(run++[q]).length:Nat)→cd=cnt (-1) (run++[q])→ci=cnt 1 (run++[q])→td=cat (-1) (run++[q])→ti=cat 1 (run++[q])→Q .next (cmS t d p cd ci td ti x7 x8 x9 x10 m):=by
  rintro hz p cd ci td ti rfl rfl rfl rfl rfl
  exact h1 hz
 rcases hq with hq | hq | hq
 ·rw[show decide (q.1=1)=false by rw[hq];rfl]
  refine kf _ (ssx fun Q2 n2=>zf fun K2 kt2 kf2=>?_)
  walk_at "D"
  refine zh hm ht hg (yN (zd7 hT c.cD.1 c.cD.2 ?_))
  walk_at "D"
  rw[show decide (q.1=-1)=true by rw[hq];rfl]
  refine kt2 _ (z9c hm ht hg (by unfold sma;exact zd8 10939122386951528412351508485247778046350376 rfl φ1 c2) (by unfold sma;exact zT 1304045007748055038584015782599988264 rfl φ1) (n2 _ (zc (n1 _ (zc (run' (by rw[hq];decide) _ _ _ _ _ ?_ ?_ ?_ ?_ ?_))))))
  ·rw[Aa];rfl
  ·rw[zc2,zix,if_pos hq];rfl
  ·rw[zc2,zix,if_neg (by rw[hq];decide)];rfl
  ·rw[yV,za7,if_pos hq]
  ·rw[yV,za7,if_neg (by rw[hq];decide),Ag]
 ·rw[show decide (q.1=1)=false by rw[hq];rfl]
  refine kf _ (ssx fun Q2 n2=>zf fun K2 kt2 kf2=>?_)
  walk_at "D"
  refine zh hm ht hg (yN (zd7 hT c.cD.1 c.cD.2 ?_))
  walk_at "D"
  rw[show decide (q.1=-1)=false by rw[hq];rfl]
  refine kf2 _ (ssx fun Q3 n3=>zf fun K3 kt3 kf3=>?_)
  walk_at "D"
  refine zh hm ht hg (yN (zd7 hT c.cE.1 c.cE.2 ?_))
  walk_at "D"
  rw[show decide (q.1=0)=true by rw[hq];rfl]
  have eq:q=(0,q.2):=by rw[←hq]
  have hm':m d=some (.list (rv (done++(run++(0,q.2)::rest)))):=by rw[←eq];exact hm
  refine kt3 _ (z80 c hT hm' hdn hr rfl (by rw[←eq];exact hφ) fun m' x7 x8 x9 p' hp' hm'' hx=>n3 _ (zc (n2 _ (zc (n1 _ (zc ?_))))))
  subst hp'
  exact h0 hq m' x7 x8 x9 hm'' hx
 ·rw[show decide (q.1=1)=true by rw[hq];rfl]
  refine kt _ (z8s hm ht hg (by unfold sma;exact zd8 10939122386951528412351508485247778046350376 rfl φ1 c1) (by unfold sma;exact zT 1304045007748055038584015782599988264 rfl φ1) (n1 _ (zc (run' (by rw[hq];decide) _ _ _ _ _ ?_ ?_ ?_ ?_ ?_))))
  ·rw[Aa];rfl
  ·rw[zc2,zix,if_neg (by rw[hq];decide)];rfl
  ·rw[zc2,zix,if_pos hq];rfl
  ·rw[yV,za7,if_neg (by rw[hq];decide),Ag]
  ·rw[yV,za7,if_pos hq]
theorem zmu {done run:Row}{k:Int}{tx:Tx}{r:Row} (h:k=0):zi done run ((k,tx)::r)=zi (zs done run tx) [] r:=by rw[zi,if_pos h]
theorem znf {done run:Row}{q:z8}{r:Row} (h:q.1≠0):zi done run (q::r)=zi done (run++[q]) r:=by
 obtain⟨k,tx⟩:=q
 rw[zi,if_neg h]
inductive C1 (t d:Addr) (todo:Row) (x10:Option V) (m:Mem) (n:Nat) (σ:St):Prop
 | mk (done run todo':Row) (m':Mem) (x7 x8 x9:Option V):σ=cmR t d done run x7 x8 x9 x10 m'→n=todo'.length→Dn done→Run run→(∀q∈todo',zwq q.1)→m' d=some (.list (rv (done++(run++todo'))))→Ext d m m'→
  phi (done++(run++todo'))≤phi todo→zi done run todo'=zi [] [] todo→C1 t d todo x10 m n σ
theorem zxh (c:Cm P) {todo:Row} (hT:zes P m t) (hm:m d=some (.list (rv todo))) (hk: ∀q∈todo,zwq q.1) (hφ:phi todo≤1000)
  (h: ∀m' p cd ci td ti x7 x8 x9,m' d=some (.list (rv (zi [] [] todo)))→phi (zi [] [] todo)≤phi todo→Ext d m m'→Q .next (cmS t d p cd ci td ti x7 x8 x9 x10 m')):
  wpS P (.whl (.cmp (.var 2) [.Lt] [.bi .len [.var 1]]) z6) Q (cmR t d [] [] x7 x8 x9 x10 m):=by
 refine⟨C1 t d todo x10 m,⟨_,[],[],todo,m,x7,x8,x9,rfl,rfl,.inl rfl,fun _ h=>by simp at h,hk,hm,.refl _ _,Al _,rfl⟩,?_⟩
 rintro n σ ⟨done,run,todo',m',x7,x8,x9,rfl,rfl,hdn,hr,hk',hm',hx,hφ',hM⟩
 have hL:=llp (done++(run++todo'))
 walk_at "D"
 refine zll hm' (by unfold sma;exact zj 83458880495875394238240826482174722600 rfl hφ hφ' hL) ?_
 walk_at "D"
 simp only[Aa] at hL ⊢
 cases todo' with
 | nil=>
  refine zcv (by simp) (h _ _ _ _ _ _ _ _ _ ?_ ?_ hx)
  ·rw[←hM,hm',Ag];rfl
  ·rw[←hM];simpa [zi] using hφ'
 | cons q rest=>
  refine zax (by simp;exact ze 284198049947185 rfl) ?_
  have e:phi (done++(run++q::rest))=phi done+(phi run+(q.2.length+1+phi rest)):=by rw[pha,pha,zd]
  refine z43 c (hT.ext ⟨_,hm⟩ hx) hm' hdn hr (hk' q Aq) (by exact ntr ‹_› ‹_›) (fun hq m'' x7 x8 x9 g1 g2=>?_) (fun hq=>?_)
  ·refine⟨rest.length,by simp,_,[],rest,m'',x7,x8,x9,rfl,rfl,.inr (zca hdn _),fun _ h=>by simp at h,fun q hq=>hk' q (Ao _ hq),g1,hx.trans g2,?_,?_⟩
   ·have:=zg8 (run:=run) hdn q.2
    rw[List.nil_append,pha];exact zmi 436033486302948915453921162030505708590116888969768 rfl hφ' e this
   ·rw[←hM]
    obtain⟨k,tx⟩:=q
    exact(zmu hq).symm
  ·refine⟨rest.length,by simp,done,run++[q],rest,m',x7,x8,x9,rfl,rfl,hdn,?_,fun q hq=>hk' q (Ao _ hq),?_,hx,?_,?_⟩
   ·intro p hp
    rcases List.mem_append.mp hp with hp | hp
    ·exact hr p hp
    ·rw[Bv] at hp;subst hp
     rcases hk' p Aq with z | z | z
     ·exact .inl z
     ·exact absurd z hq
     ·exact .inr z
   ·rw[hm'];simp
   ·simpa using hφ'
   ·rw[←hM];exact(znf hq).symm
end
section
variable {P:PC}{Q:Fl→St→Prop}{t d:Addr}{td ti:Tx}{cd ci:Int}{x7 x8 x9 x10:Option V}{m:Mem}
structure At3 (L:Row) (p:Int) (A:Row) (a b c:z8) (C:Row):Prop where
 e:L=A++a::b::c::C
 hp:p=(A.length+1:Nat)
theorem At3.g1 {L:Row}{p:Int}{A:Row}{a b c:z8}{C:Row} (h:At3 L p A a b c C):zK L (p-1)=some a:=by
 rw[h.e];exact zM _ _ _ (by rw[h.hp];exact Ad (zm 8280965740080 rfl) (zm 35459616480816 rfl))
theorem At3.g2 {L:Row}{p:Int}{A:Row}{a b c:z8}{C:Row} (h:At3 L p A a b c C):zK L p=some b:=by
 rw[h.e,show A++a::b::c::C=(A++[a])++b::c::C by simp];exact zM _ _ _ (by rw[h.hp];simp)
theorem At3.g3 {L:Row}{p:Int}{A:Row}{a b c:z8}{C:Row} (h:At3 L p A a b c C):zK L (p+1)=some c:=by
 rw[h.e,show A++a::b::c::C=(A++[a,b])++c::C by simp];exact zM _ _ _ (by rw[h.hp];simp;rfl)
theorem At3.i1 {L:Row}{p:Int}{A:Row}{a b c:z8}{C:Row} (h:At3 L p A a b c C):zn4 (rv L).length (p-1)=some A.length:=by
 rw[h.e];exact zne _ _ _ (by rw[h.hp];exact Ad (zm 8280965740080 rfl) (zm 35459616480816 rfl))
theorem At3.i2 {L:Row}{p:Int}{A:Row}{a b c:z8}{C:Row} (h:At3 L p A a b c C):zn4 (rv L).length p=some (A++[a]).length:=by
 rw[h.e,show A++a::b::c::C=(A++[a])++b::c::C by simp];exact zne _ _ _ (by rw[h.hp];simp)
theorem At3.i3 {L:Row}{p:Int}{A:Row}{a b c:z8}{C:Row} (h:At3 L p A a b c C):zn4 (rv L).length (p+1)=some (A++[a,b]).length:=by
 rw[h.e,show A++a::b::c::C=(A++[a,b])++c::C by simp];exact zne _ _ _ (by rw[h.hp];simp;rfl)
theorem At3.s1 {L:Row}{p:Int}{A:Row}{a b c:z8}{C:Row} (h:At3 L p A a b c C) (a':z8):(rv L).set A.length (pv a')=rv (A++a'::b::c::C):=by
 rw[h.e];exact zit _ _ _ _
theorem At3.s2 {L:Row}{p:Int}{A:Row}{a b c:z8}{C:Row} (h:At3 L p A a b c C) (b':z8):(rv L).set (A++[a]).length (pv b')=rv (A++a::b'::c::C):=by
 rw[h.e,show A++a::b::c::C=(A++[a])++b::c::C by simp,zit];simp
theorem At3.s3 {L:Row}{p:Int}{A:Row}{a b c:z8}{C:Row} (h:At3 L p A a b c C) (c':z8):(rv L).set (A++[a,b]).length (pv c')=rv (A++a::b::c'::C):=by
 rw[h.e,show A++a::b::c::C=(A++[a,b])++c::C by simp,zit];simp
theorem At3.d1 {L:Row}{p:Int}{A:Row}{a b c:z8}{C:Row} (h:At3 L p A a b c C):(rv L).eraseIdx A.length=rv (A++b::c::C):=by
 rw[h.e,zlf]
theorem At3.d3 {L:Row}{p:Int}{A:Row}{a b c:z8}{C:Row} (h:At3 L p A a b c C):(rv L).eraseIdx (A++[a,b]).length=rv (A++a::b::C):=by
 rw[h.e,show A++a::b::c::C=(A++[a,b])++c::C by simp,zlf];simp
theorem At3.tin {L:Row}{p:Int}{A:Row}{a b c:z8}{C:Row} (h:At3 L p A a b c C) (hs:L.length≤1000):zr (p-1)∧zr p∧zr (p+1):=by
 have e:=h.hp
 have l:A.length≤1000:=ntr (by rw[h.e,Aa];exact Bc ..) hs
 generalize A.length=n at *
 clear hs h
 subst e
 have t: ∀k:Nat,k≤2000→zr (k:Int):=fun k hk=>⟨Int.lt_of_lt_of_le (by decide) (Int.natCast_nonneg k),Int.lt_of_le_of_lt (Int.ofNat_le.mpr hk) (by decide)⟩
 exact⟨by rw[show((n+1:Nat):Int)-1=(n:Int) by exact Ad (zm 8280965740080 rfl) (zm 35459616480816 rfl)];exact t _ (by exact zm 293562657631123800616 rfl l),t _ (by exact zm 300608285718209208779304 rfl l),t (n+2) (by exact zm 300608429833397284635176 rfl l)⟩
theorem z4z {L A C:Row}{p:Int}{a b c:z8} (h3:At3 L p A a b c C) (hm:m d=some (.list (rv L))) (hs:L.length≤1000) (ha:a.2.length≤1000) (hb:b.2.length≤1000) (hc:c.2.length≤1000) (he:a.2.length≤b.2.length)
  (h: ∀m',m' d=some (.list (rv (A++(b.1,a.2++b.2.take (b.2.length-a.2.length))::(c.1,a.2++c.2)::C)))→Ext d m m'→Q .next (cmS t d p cd ci td ti x7 x8 x9 (some (.bool true)) m')):
  zk P yA Q (cmS t d p cd ci td ti x7 x8 x9 x10 m):=by
 obtain⟨t1,t2,t3⟩:=h3.tin hs
 have sm: ∀{n:Nat},n≤2000→sma n:=fun h=>by unfold sma;exact ntr ‹_› (by decide)
 have tail: ∀m' b' c',At3 (A++a::b'::c'::C) p A a b' c' C→m' d=some (.list (rv (A++a::b'::c'::C)))→Ext d m m'→b'=(b.1,a.2++b.2.take (b.2.length-a.2.length))→c'=(c.1,a.2++c.2)→
   zk P [.del (.var 1) (.bin .Sub (.var 2) (.lit (.int 1))),.assign [.var 10] (.lit (.bool true))] Q (cmS t d p cd ci td ti x7 x8 x9 x10 m'):=fun m' b' c' g hm' hx e1 e2=>by
  walk_at "D"
  refine⟨d,_,_,A.length,rfl,rfl,t1,hm',g.i1,?_,h _ ?_ (hx.trans (.upd _ _ _))⟩
  ·rw[zl];rw[h3.e] at hs;simp at hs;exact sm (by simp;exact ntr ‹_› (by decide))
  ·rw[ups,g.d1,e1,e2]
 unfold yA
 refine ssx fun Q1 n1=>zf fun K kt kf=>?_
 walk_at "D"
 refine zh hm t1 h3.g1 (z0 ?_)
 walk_at "D"
 by_cases hz:a.2=[]
 ·rw[show(!decide (a.2=[]))=false by simp[hz]]
  refine kf _ (zc (n1 _ (tail m b c ?_ ?_ (.refl _ _) ?_ ?_)))
  ·exact⟨rfl,h3.hp⟩
  ·rw[hm,h3.e]
  ·rw[hz];simp
  ·rw[hz];rfl
 ·rw[show(!decide (a.2=[]))=true by simp[hz]]
  refine kt _ ?_
  have h0:0<a.2.length:=Bl.mpr hz
  unfold za2
  refine ssx fun Q2 n2=>?_
  walk_at "D"
  refine zh hm t2 h3.g2 (yN (zh hm t1 h3.g1 (z0 (zh hm t2 h3.g2 (z0 (zh hm t1 h3.g1 (z0 ?_)))))))
  walk_at "D"
  rw[ze0 h0 he]
  have g1:At3 (A++a::(b.1,a.2++b.2.take (b.2.length-a.2.length))::c::C) p A a (b.1,a.2++b.2.take (b.2.length-a.2.length)) c C:=⟨rfl,h3.hp⟩
  refine⟨sm (by exact zm 293562657631123800616 rfl ha),sm (by grind),sm (by grind),sm (by simp;exact ze 87351102319657993896488 rfl hb),d,_,_,_,rfl,rfl,t2,hm,h3.i2,n2 _ (ssx fun Q3 n3=>?_)⟩
  have hm1:upd m d (O.list ((rv L).set (A++[a]).length (V.tup [V.int b.1,V.str (a.2++b.2.take (b.2.length-a.2.length))]))) d=some (.list (rv (A++a::(b.1,a.2++b.2.take (b.2.length-a.2.length))::c::C))):=by
   rw[ups];exact congrArg (fun l=>some (O.list l)) (h3.s2 (b.1,a.2++b.2.take (b.2.length-a.2.length)))
  walk_at "D"
  refine zh hm1 t3 g1.g3 (yN (zh hm1 t1 g1.g1 (z0 (zh hm1 t3 g1.g3 (z0 ?_)))))
  walk_at "D"
  refine⟨sm (by grind),sm (by grind),d,_,_,_,rfl,rfl,t3,hm1,g1.i3,n3 _ (zc (n1 _ (tail _ _ _ ⟨rfl,h3.hp⟩ ?_ ((Ext.upd _ _ _).trans (.upd _ _ _)) rfl rfl)))⟩
  rw[ups];exact congrArg (fun l=>some (O.list l)) (g1.s3 (c.1,a.2++c.2))
theorem z51 {L A C:Row}{p:Int}{a b c:z8} (h3:At3 L p A a b c C) (hm:m d=some (.list (rv L))) (hs:L.length≤1000) (ha:a.2.length≤1000) (hb:b.2.length≤1000) (hc:c.2.length≤1000) (he:c.2.length≤b.2.length)
  (h: ∀m',m' d=some (.list (rv (A++(a.1,a.2++c.2)::(b.1,b.2.drop c.2.length++c.2)::C)))→Ext d m m'→Q .next (cmS t d p cd ci td ti x7 x8 x9 (some (.bool true)) m')):
  zk P zZ Q (cmS t d p cd ci td ti x7 x8 x9 x10 m):=by
 obtain⟨t1,t2,t3⟩:=h3.tin hs
 have sm: ∀{n:Nat},n≤2000→sma n:=fun h=>by unfold sma;exact ntr ‹_› (by decide)
 unfold zZ
 refine ssx fun Q2 n2=>?_
 walk_at "D"
 refine zh hm t1 h3.g1 (yN (zh hm t1 h3.g1 (z0 (zh hm t3 h3.g3 (z0 ?_)))))
 walk_at "D"
 have g1:At3 (A++(a.1,a.2++c.2)::b::c::C) p A (a.1,a.2++c.2) b c C:=⟨rfl,h3.hp⟩
 refine⟨sm (by exact ntr ‹_› (by decide)),sm (by exact zm 293562657631123800616 rfl hc),d,_,_,_,rfl,rfl,t1,hm,h3.i1,n2 _ (ssx fun Q3 n3=>?_)⟩
 have hm1:upd m d (O.list ((rv L).set A.length (V.tup [V.int a.1,V.str (a.2++c.2)]))) d=some (.list (rv (A++(a.1,a.2++c.2)::b::c::C))):=by
  rw[ups];exact congrArg (fun l=>some (O.list l)) (h3.s1 (a.1,a.2++c.2))
 walk_at "D"
 refine zh hm1 t2 g1.g2 (yN (zh hm1 t2 g1.g2 (z0 (zh hm1 t3 g1.g3 (z0 ?_)))))
 walk_at "D"
 refine⟨sm (by grind),sm (by grind),zh hm1 t3 g1.g3 (z0 ?_)⟩
 walk_at "D"
 rw[zQ b.2 he]
 have g2:At3 (A++(a.1,a.2++c.2)::(b.1,b.2.drop c.2.length++c.2)::c::C) p A (a.1,a.2++c.2) (b.1,b.2.drop c.2.length++c.2) c C:=⟨rfl,h3.hp⟩
 refine⟨sm (by simp;exact ze 87351102319657993896488 rfl hb),sm (by grind),d,_,_,_,rfl,rfl,t2,hm1,g1.i2,n3 _ (ssx fun Q4 n4=>?_)⟩
 have hm2:upd (upd m d (O.list ((rv L).set A.length (V.tup [V.int a.1,V.str (a.2++c.2)])))) d (O.list ((rv (A++(a.1,a.2++c.2)::b::c::C)).set (A++[(a.1,a.2++c.2)]).length (V.tup [V.int b.1,V.str (b.2.drop c.2.length++c.2)]))) d=
   some (.list (rv (A++(a.1,a.2++c.2)::(b.1,b.2.drop c.2.length++c.2)::c::C))):=by
  rw[ups];exact congrArg (fun l=>some (O.list l)) (g1.s2 (b.1,b.2.drop c.2.length++c.2))
 walk_at "D"
 refine⟨d,_,_,_,rfl,rfl,t3,hm2,g2.i3,?_,n4 _ ?_⟩
 ·rw[zl];rw[h3.e] at hs;simp at hs;exact sm (by simp;exact ntr ‹_› (by decide))
 ·walk_at "D"
  refine h _ ?_ (((Ext.upd _ _ _).trans (.upd _ _ _)).trans (.upd _ _ _))
  rw[ups,g2.d3]
theorem z5e (c:Cm P) {L A C:Row}{p:Int}{a b e:z8}{ch:Bool} (hT:zes P m t) (h3:At3 L p A a b e C) (hm:m d=some (.list (rv L))) (hs:L.length≤1000) (ha:a.2.length≤1000) (hb:b.2.length≤1000) (hc:e.2.length≤1000)
  (hl:a.1=0→e.1=0→a.2.length≤b.2.length∧b.2.drop (b.2.length-a.2.length)=a.2→∀m',m' d=some (.list (rv (A++(b.1,a.2++b.2.take (b.2.length-a.2.length))::(e.1,a.2++e.2)::C)))→Ext d m m'→Q .next (cmS t d (p+1) cd ci td ti x7 x8 x9 (some (.bool true)) m'))
  (hr:a.1=0→e.1=0→¬(a.2.length≤b.2.length∧b.2.drop (b.2.length-a.2.length)=a.2)→b.2.take e.2.length=e.2→∀m',m' d=some (.list (rv (A++(a.1,a.2++e.2)::(b.1,b.2.drop e.2.length++e.2)::C)))→Ext d m m'→Q .next (cmS t d (p+1) cd ci td ti x7 x8 x9 (some (.bool true)) m'))
  (hn: ¬(a.1=0∧e.1=0∧((a.2.length≤b.2.length∧b.2.drop (b.2.length-a.2.length)=a.2)∨b.2.take e.2.length=e.2))→Q .next (cmS t d (p+1) cd ci td ti x7 x8 x9 (some (.bool ch)) m)):
  zk P zp Q (cmS t d p cd ci td ti x7 x8 x9 (some (.bool ch)) m):=by
 obtain⟨t1,t2,t3⟩:=h3.tin hs
 have tail: ∀m' x,Q .next (cmS t d (p+1) cd ci td ti x7 x8 x9 x m')→zk P [.aug 2 .Add (.lit (.int 1))] Q (cmS t d p cd ci td ti x7 x8 x9 x m'):=fun m' x q=>q
 unfold zp
 refine ssx fun Q1 n1=>zf fun K kt kf=>?_
 walk_at "D"
 refine zh hm t1 h3.g1 (yN (zd7 hT c.cE.1 c.cE.2 ?_))
 walk_at "D"
 by_cases h0:a.1=0
 ·rw[show decide (a.1=0)=true from Af h0,if_pos rfl]
  refine zh hm t3 h3.g3 (yN (zd7 hT c.cE.1 c.cE.2 ?_))
  walk_at "D"
  by_cases h1:e.1=0
  ·rw[show decide (e.1=0)=true from Af h1,if_pos rfl]
   refine kt _ (ssx fun Q2 n2=>zf fun K2 kt2 kf2=>?_)
   walk_at "D"
   refine zh hm t2 h3.g2 (z0 ⟨trivial,zh hm t1 h3.g1 (z0 ?_)⟩)
   walk_at "D"
   by_cases hL:a.2.length≤b.2.length∧b.2.drop (b.2.length-a.2.length)=a.2
   ·rw[Af hL]
    exact kt2 _ (z4z h3 hm hs ha hb hc hL.1 fun m' g1 g2=>n2 _ (zc (n1 _ (tail _ _ (hl h0 h1 hL m' g1 g2)))))
   ·rw[Ae hL]
    refine kf2 _ (ssx fun Q3 n3=>zf fun K3 kt3 kf3=>?_)
    walk_at "D"
    refine zh hm t2 h3.g2 (z0 ⟨trivial,zh hm t3 h3.g3 (z0 ?_)⟩)
    walk_at "D"
    by_cases hR:b.2.take e.2.length=e.2
    ·rw[Af hR]
     have he:e.2.length≤b.2.length:=by
      have:=congrArg List.length hR
      rw[An] at this;exact zj 78438641144798183979 rfl this (Nat.min_le_right _ _)
     exact kt3 _ (z51 h3 hm hs ha hb hc he fun m' g1 g2=>n3 _ (zc (n2 _ (zc (n1 _ (tail _ _ (hr h0 h1 hL hR m' g1 g2)))))))
    ·rw[Ae hR]
     exact kf3 _ (zc (n3 _ (zc (n2 _ (zc (n1 _ (tail _ _ (hn fun q=>q.2.2.elim hL hR))))))))
  ·rw[show decide (e.1=0)=false from Ae h1,if_neg (by decide)]
   exact kf _ (zc (n1 _ (tail _ _ (hn fun q=>h1 q.2.1))))
 ·rw[show decide (a.1=0)=false from Ae h0,if_neg (by decide)]
  exact kf _ (zc (n1 _ (tail _ _ (hn fun q=>h0 q.1))))
end
theorem z28 {a b c:z8}{C:Row} (h0:a.1=0) (h1:c.1=0) (h:a.2.length≤b.2.length∧b.2.drop (b.2.length-a.2.length)=a.2):
  sgo a (b::c::C)=((b.1,a.2++b.2.take (b.2.length-a.2.length))::(sgo (c.1,a.2++c.2) C).1,true):=by
 rw[sgo,if_pos ⟨h0,h1⟩,if_pos h]
theorem z3v {a b c:z8}{C:Row} (h0:a.1=0) (h1:c.1=0) (h: ¬(a.2.length≤b.2.length∧b.2.drop (b.2.length-a.2.length)=a.2)) (h2:b.2.take c.2.length=c.2):
  sgo a (b::c::C)=((a.1,a.2++c.2)::(sgo (b.1,b.2.drop c.2.length++c.2) C).1,true):=by
 rw[sgo,if_pos ⟨h0,h1⟩,if_neg h,if_pos h2]
theorem z24 {a b c:z8}{C:Row} (h: ¬(a.1=0∧c.1=0∧((a.2.length≤b.2.length∧b.2.drop (b.2.length-a.2.length)=a.2)∨b.2.take c.2.length=c.2))):
  sgo a (b::c::C)=(a::(sgo b (c::C)).1,(sgo b (c::C)).2):=by
 rw[sgo]
 by_cases g:a.1=0∧c.1=0
 ·rw[if_pos g,if_neg (fun q=>h ⟨g.1,g.2,.inl q⟩),if_neg (fun q=>h ⟨g.1,g.2,.inr q⟩)]
 ·rw[if_neg g]
section
variable {P:PC}{Q:Fl→St→Prop}{t d:Addr}{td ti:Tx}{cd ci:Int}{x7 x8 x9 x10:Option V}{m:Mem}
inductive C2 (t d:Addr) (cd ci:Int) (td ti:Tx) (x7 x8 x9:Option V) (a0:z8) (r0:Row) (m:Mem) (n:Nat) (σ:St):Prop
 | mk (A:Row) (a:z8) (rest:Row) (ch:Bool) (m':Mem):σ=cmS t d ((A.length+1:Nat):Int) cd ci td ti x7 x8 x9 (some (.bool ch)) m'→n=rest.length→m' d=some (.list (rv (A++a::rest)))→Ext d m m'→
  A++(sgo a rest).1=(sgo a0 r0).1→(ch||(sgo a rest).2)=(sgo a0 r0).2→phi (A++a::rest)≤1000→C2 t d cd ci td ti x7 x8 x9 a0 r0 m n σ
theorem zy4 (c:Cm P) {L:Row} (hT:zes P m t) (hm:m d=some (.list (rv L))) (hφ:phi L≤1000)
  (h: ∀m' p,m' d=some (.list (rv (zbh L).1))→Ext d m m'→Q .next (cmS t d p cd ci td ti x7 x8 x9 (some (.bool (zbh L).2)) m')):
  wpS P (.whl (.cmp (.var 2) [.Lt] [.bin .Sub (.bi .len [.var 1]) (.lit (.int 1))]) zp) Q (cmS t d 1 cd ci td ti x7 x8 x9 (some (.bool false)) m):=by
 cases L with
 | nil=>
  refine⟨fun n σ=>σ=cmS t d 1 cd ci td ti x7 x8 x9 (some (.bool false)) m,⟨0,rfl⟩,?_⟩
  rintro n σ rfl
  walk_at "D"
  refine zll hm (by unfold sma;simp) ?_
  walk_at "D"
  exact zcv (by simp) (h m 1 hm (.refl _ _))
 | cons a0 r0=>
  refine⟨C2 t d cd ci td ti x7 x8 x9 a0 r0 m,⟨_,[],a0,r0,false,m,rfl,rfl,hm,.refl _ _,rfl,by simp,hφ⟩,?_⟩
  rintro n σ ⟨A,a,rest,ch,m',rfl,rfl,hm',hx,hS,hC,hφ'⟩
  have hL:=llp (A++a::rest)
  have e2:phi (A++a::rest)=phi A+(a.2.length+1+phi rest):=by rw[pha,zd]
  walk_at "D"
  refine zll hm' (by unfold sma;exact ze 9949073849436249927004832399912 rfl hφ' hL) ?_
  walk_at "D"
  match rest,hS,hC,hm',hL,e2,hφ' with
  | [],hS,hC,hm',hL,e2,hφ'=>
   refine zcv (by simp;exact zm 34423709232 rfl) ?_
   have:=h m' ((A.length+1:Nat):Int) (by rw[show(zbh (a0::r0)).1=(sgo a0 r0).1 from rfl,←hS];exact hm') hx
   rw[show(zbh (a0::r0)).2=(sgo a0 r0).2 from rfl,←hC,show(sgo a []).2=false from rfl,Bool.or_false] at this
   exact this
  | [b],hS,hC,hm',hL,e2,hφ'=>
   refine zcv (by simp;exact zm 36095902125368880 rfl) ?_
   have:=h m' ((A.length+1:Nat):Int) (by rw[show(zbh (a0::r0)).1=(sgo a0 r0).1 from rfl,←hS];exact hm') hx
   rw[show(zbh (a0::r0)).2=(sgo a0 r0).2 from rfl,←hC,show(sgo a [b]).2=false from rfl,Bool.or_false] at this
   exact this
  | b::e::C,hS,hC,hm',hL,e2,hφ'=>
   refine zax (by simp;exact ze 311921899928733321535747121 rfl) ?_
   have h3:At3 (A++a::b::e::C) ((A.length+1:Nat):Int) A a b e C:=⟨rfl,rfl⟩
   have e4:phi (b::e::C)=b.2.length+1+(e.2.length+1+phi C):=by rw[zd,zd]
   refine z5e c (hT.ext ⟨_,hm⟩ hx) h3 hm' (by exact ze 1231895573938013697347224104 rfl hL hφ') (by exact zT 1322739068188329992344104850028500011 rfl e2 hφ') (by exact zmi 12200149609655471586621302981194429630279507544640590891 rfl e2 hφ' e4) (by exact zmi 12200161301668570233844648610673091360543664792100934699 rfl e2 hφ' e4) (fun h0 h1 hl m'' g1 g2=>?_) (fun h0 h1 hl hr m'' g1 g2=>?_) (fun hn=>?_)
   ·rw[z28 h0 h1 hl] at hS hC
    refine⟨C.length,by simp;exact Bc ..,A++[(b.1,a.2++b.2.take (b.2.length-a.2.length))],(e.1,a.2++e.2),C,true,m'',?_,rfl,?_,hx.trans g2,?_,?_,?_⟩
    ·rw[Aa];rfl
    ·rw[g1];simp
    ·rw[←hS];simp
    ·rw[←hC];simp
    ·rw[pha,pha,zd,zd,zcs]
     simp only[Aa,An]
     have:=hl.1
     rw[Aw (by exact ze 4952567644712 rfl (Nat.sub_le _ _))];exact zwl 126693839139944249287781640101931197742636743840816090250460109299470392734927179345826859 rfl e2 hφ' e4 (Ab (ze 4952567644712 rfl hl.1))
   ·rw[z3v h0 h1 hl hr] at hS hC
    have he:e.2.length≤b.2.length:=by
     have:=congrArg List.length hr
     rw[An] at this;exact zj 78438641144798183979 rfl this (Nat.min_le_right _ _)
    refine⟨C.length,by simp;exact zm 554056155705 rfl,A++[(a.1,a.2++e.2)],(b.1,b.2.drop e.2.length++e.2),C,true,m'',?_,rfl,?_,hx.trans g2,?_,?_,?_⟩
    ·rw[Aa];rfl
    ·rw[g1];simp
    ·rw[←hS];simp
    ·rw[←hC];simp
    ·rw[pha,pha,zd,zd,zcs]
     simp only[Aa,Ap];exact zwl 126693839140291625555385748901533308186374625156086848505460827012345765185112101861987371 rfl e2 hφ' e4 (Ab (ze 4952567644712 rfl he))
   ·rw[z24 hn] at hS hC
    refine⟨(e::C).length,by simp,A++[a],b,e::C,ch,m',?_,rfl,?_,hx,?_,hC,?_⟩
    ·rw[Aa];rfl
    ·rw[hm'];simp
    ·rw[←hS];simp
    ·simpa using hφ'
theorem z2v (c:Cm P) {n:Nat}{R:Row}{p:Int} (hT:zes P m t) (hm:m d=some (.list (rv R))) (hk:zg R) (hφ:phi R≤999)
  (hrec: ∀L' m1 (Q':V→Mem→Prop),zes P m1 t→m1 d=some (.list (rv L'))→zg L'→phi L'<phi R→(∀m',m' d=some (.list (rv (zA n L')))→Ext d m1 m'→Q' .none m')→P.meth "diff_cleanupMerge" [.obj t,.obj d] Q' m1)
  (h: ∀σ',σ'.mem d=some (.list (rv (if (zbh R).2 then zA n (zbh R).1 else(zbh R).1)))→Ext d m σ'.mem→Q .next σ'):
  zk P [.assign [.var 10] (.lit (.bool false)),.assign [.var 2] (.lit (.int 1)),
   .whl (.cmp (.var 2) [.Lt] [.bin .Sub (.bi .len [.var 1]) (.lit (.int 1))]) zp,.ife (.var 10) [.expr (.imeth (.var 0) "diff_cleanupMerge" [.var 1])] []] Q (cmS t d p cd ci td ti x7 x8 x9 x10 m):=by
 have hTd: ∃l,m d=some (.list l):=⟨_,hm⟩
 refine ssx fun Q1 n1=>?_
 walk_at "D"
 refine n1 _ (ssx fun Q2 n2=>?_)
 walk_at "D"
 refine n2 _ (ssx fun Q4 n4=>zy4 c hT hm (by exact ntr ‹_› (by decide)) fun m4 p' hm4 hx4=>n4 _ ?_)
 have hφs:=zgb R
 refine ssx fun Q5 n5=>zf fun K kt kf=>?_
 walk_at "D"
 cases hs:(zbh R).2 with
 | false=>
  refine kf _ (zc (n5 _ (zc (h _ ?_ hx4))))
  show m4 d=_
  rw[hs,if_neg (by decide)];exact hm4
 | true=>
  rw[hs] at hφs
  refine kt _ (ssx fun Q6 n6=>?_)
  walk_at "D"
  have hT4:=hT.ext hTd hx4
  refine⟨zln hT4 c.fm,hrec _ m4 _ hT4 hm4 (zdo hk) (by simp at hφs;trivial) fun m5 hm5 hx5=>n6 _ (zc (n5 _ (zc (h _ ?_ (hx4.trans hx5)))))⟩
  show m5 d=_
  rw[hs,if_pos rfl];exact hm5
theorem z34 {R dn:Row}{u:Tx}{p:Int} (hm:m d=some (.list (rv R))) (e:R=dn++[((0:Int),u)]) (hφ:phi R≤1000)
  (h: ∀m',m' d=some (.list (rv (zfi R)))→Ext d m m'→Q .next (cmS t d p cd ci td ti x7 x8 x9 x10 m')):
  wpS P (.ife (.cmp (.idx (.idx (.var 1) (.neg (.lit (.int 1)))) (.lit (.int 1))) [.Eq] [.lit (.str [])]) [.expr (.me (.var 1) .pop [])] []) Q (cmS t d p cd ci td ti x7 x8 x9 x10 m):=by
 subst e
 have hL:=llp (dn++[((0:Int),u)])
 refine zf fun K kt kf=>?_
 have hg:zK (dn++[((0:Int),u)]) (-1)=some ((0:Int),u):=by rw[zbu _ (by simp)];simp
 walk_at "D"
 refine zh hm (by (first|exact zag (by lia)|(unfold zr;lia)|(unfold zr;grind))) hg (z0 ?_)
 walk_at "D"
 by_cases hu:u=[]
 ·rw[Af hu]
  refine kt _ (ssx fun Q4 n4=>?_)
  walk_at "D"
  refine⟨⟨_,hm⟩,rfl,rv dn,pv (0,u),by rw[hm,zN];rfl,?_,n4 _ (zc (h _ ?_ (.upd _ _ _)))⟩
  ·rw[zl];unfold sma;simp at hL;exact ze 10187851621822719907129998843052584 rfl hφ hL
  ·rw[ups,zdl,if_pos hu]
 ·rw[Ae hu]
  refine kf _ (zc (h _ ?_ (.refl _ _)))
  rw[hm,zdl,if_neg hu]
theorem zka (c:Cm P) {n:Nat}{L:Row} (hT:zes P m t) (hm:m d=some (.list (rv L))) (hk:zg L) (hφ:phi L≤999)
  (hrec: ∀L' m1 (Q':V→Mem→Prop),zes P m1 t→m1 d=some (.list (rv L'))→zg L'→phi L'<phi L→(∀m',m' d=some (.list (rv (zA n L')))→Ext d m1 m'→Q' .none m')→P.meth "diff_cleanupMerge" [.obj t,.obj d] Q' m1)
  (h: ∀σ',σ'.mem d=some (.list (rv (zA (n+1) L)))→Ext d m σ'.mem→Q .next σ'):
  zk P zW Q ⟨[V.obj t,.obj d].map some++List.replicate 9 none,m⟩:=by
 have hTd: ∃l,m d=some (.list l):=⟨_,hm⟩
 have hL:=llp L
 have e1:phi (L++[((0:Int),([]:Tx))])=phi L+1:=by rw[pha];rfl
 have hphi:phi (zfi (zbo L))≤phi L:=zel L
 have hkind:zg (zfi (zbo L)):=zcu _ (yQ _ _ _ .nil .nil (hk.append (.cons (.inr (.inl rfl)) .nil)))
 obtain⟨dn,u,eM⟩:=ze1 [] L [] [] (.inl rfl)
 unfold zW
 refine ssx fun Q1 n1=>?_
 walk_at "D"
 refine⟨hTd,zd7 hT c.cE.1 c.cE.2 ?_⟩
 walk_at "D"
 refine⟨_,hm,by rw[zl];unfold sma;exact ze 9949073849436249927004827681320 rfl hφ hL,n1 _ ?_⟩
 have hx1:Ext d m (upd m d (.list (rv L++[V.tup [.int 0,.str []]]))):= .upd _ _ _
 have hm1:upd m d (.list (rv L++[V.tup [.int 0,.str []]])) d=some (.list (rv (L++[((0:Int),([]:Tx))]))):=by rw[ups,zN];rfl
 clear n1
 generalize upd m d (.list (rv L++[V.tup [.int 0,.str []]]))=m1 at hx1 hm1
 refine ssx fun Q2 n2=>?_
 walk_at "D"
 refine n2 _ (ssx fun Q3 n3=>?_)
 walk_at "D"
 refine n3 _ (ssx fun Q4 n4=>?_)
 walk_at "D"
 refine n4 _ (ssx fun Q5 n5=>?_)
 walk_at "D"
 refine n5 _ (ssx fun Q6 n6=>?_)
 walk_at "D"
 refine n6 _ (ssx fun Q7 n7=>zxh c (hT.ext hTd hx1) hm1 (hk.append (.cons (.inr (.inl rfl)) .nil)) (by exact ze 1261462276620101678472686469672 rfl hφ e1) fun m2 p cd ci td ti x7 x8 x9 hm2 hφ2 hx2=>n7 _ ?_)
 have hx2:=hx1.trans hx2
 refine ssx fun Q8 n8=>z34 hm2 eM (by exact zj 10581922686580133096584384462773027368 rfl hφ e1 hφ2) fun m3 hm3 hx3=>n8 _ ?_
 have hx3:=hx2.trans hx3
 refine z2v c (hT.ext hTd hx3) hm3 hkind (by unfold zbo at hphi;exact ntr ‹_› ‹_›) (fun L' m1 Q' g1 g2 g3 g4=>hrec L' m1 Q' g1 g2 g3 (by unfold zbo at hphi;exact Ba ‹_› ‹_›)) fun σ' g1 g2=>h σ' ?_ (hx3.trans g2)
 rw[zA];exact g1
end
noncomputable def zna (cls:Addr) (n:Nat) (f:String) (vs:List V) (Q:V→Mem→Prop) (m:Mem):Prop:=
 (f="diff_commonPrefix"∧∃s x y,vs=[s,.str x,.str y]∧sma x.length∧sma y.length∧Q (.int (lcp x y)) m)∨
 (f="diff_commonSuffix"∧∃s x y,vs=[s,.str x,.str y]∧sma x.length∧sma y.length∧Q (.int (lcs x y)) m)∨
 (f="diff_cleanupMerge"∧∃t d L,vs=[.obj t,.obj d]∧zes (za9 cls) m t∧m d=some (.list (rv L))∧zg L∧phi L<n∧phi L≤999∧∀m',m' d=some (.list (rv (zA n L)))→Ext d m m'→Q .none m')
noncomputable def pcM (cls:Addr) (n:Nat):PC:={za9 cls with meth:=zna cls n}
theorem z42 (cls:Addr) (n:Nat):Cm (pcM cls n) where
 cD:=⟨rfl,rfl⟩
 cI:=⟨rfl,rfl⟩
 cE:=⟨rfl,rfl⟩
 fp:=rfl
 fs:=rfl
 fm:=rfl
 cp:=fun h1 h2 q=> .inl ⟨rfl,_,_,_,rfl,h1,h2,q⟩
 cs:=fun h1 h2 q=> .inr (.inl ⟨rfl,_,_,_,rfl,h1,h2,q⟩)
noncomputable def zkb (K:Frag) (cls:Addr) (fns meths:List String):Bool:=
 zjd K (meA K cls "diff_commonPrefix") zbf zap (ze3 zbf zap zct fns meths zc9) zV &&
 zjd K (meA K cls "diff_commonSuffix") zbe zau (ze3 zbe zau zc1 fns meths zdb) zU &&
 zjd K (meA K cls "diff_cleanupMerge") zbc za1 (ze3 zbc za1 zcy fns meths zc5) zW
theorem zma {G:GS}{cls:Addr} (b:Base G (za9 cls)) (h:zkb G.K cls G.fns G.meths=true): ∀(n:Nat) (A:Around),Lv A (n+1)→∀f vs Q m,zna cls n f vs Q m→zc6 G A (.ref (meA G.K cls f)) vs Q m:=by
 have h0:=h
 unfold zkb at h
 simp only[Cc] at h
 obtain⟨⟨h1,h2⟩,h3⟩:=h
 intro n
 induction n with
 | zero=>
  intro A lv f vs Q m hc
  rcases hc with ⟨rfl,s,x,y,rfl,hx,hy,q⟩ | ⟨rfl,s,x,y,rfl,hx,hy,q⟩ | ⟨rfl,t,d,L,rfl,hT,hm,hk,hφ,_,_⟩
  ·exact(zbi b.gok b.gbi h1 lv.room (fun env=>(lv.deeper env).rm) (fun env=>zzd b) (fun _ h=>h) (fun _ h=>h) rfl (ze4 (za9 cls) s x y m hx hy Q q)).toS
  ·exact(zbi b.gok b.gbi h2 lv.room (fun env=>(lv.deeper env).rm) (fun env=>zzd b) (fun _ h=>h) (fun _ h=>h) rfl (zfa (za9 cls) s x y m hx hy Q q)).toS
  ·exact absurd hφ (Nat.not_lt_zero _)
 | succ n ih=>
  intro A lv f vs Q m hc
  rcases hc with ⟨rfl,s,x,y,rfl,hx,hy,q⟩ | ⟨rfl,s,x,y,rfl,hx,hy,q⟩ | ⟨rfl,t,d,L,rfl,hT,hm,hk,hφ,hφ9,q⟩
  ·exact(zbi b.gok b.gbi h1 lv.room (fun env=>(lv.deeper env).rm) (fun env=>zzd b) (fun _ h=>h) (fun _ h=>h) rfl (ze4 (za9 cls) s x y m hx hy Q q)).toS
  ·exact(zbi b.gok b.gbi h2 lv.room (fun env=>(lv.deeper env).rm) (fun env=>zzd b) (fun _ h=>h) (fun _ h=>h) rfl (zfa (za9 cls) s x y m hx hy Q q)).toS
  ·refine(zbi (P:=pcM cls n) b.gok b.gbi h3 lv.room (fun env=>(lv.deeper env).rm) (fun env=>?_) (fun _ h=>h) (fun _ h=>h) rfl ?_).toS
   ·exact zfq (b.swap rfl rfl rfl) (fun _ _ _ _ _ h=>h.elim) (fun f _ vs Q m hc=>ih _ (lv.deeper env) f vs Q m hc) (fun _ _ _ _ h=>h.elim)
   ·refine zka (z42 cls n) hT hm hk hφ9 (fun L' m1 Q' g1 g2 g3 g4 g5=>?_) fun σ' g1 g2=>q _ g1 g2
    exact .inr (.inr ⟨rfl,t,d,L',rfl,g1,g2,g3,by exact zj 43132595565262566720041 rfl hφ g4,by exact ze 1230536712949126585294258728 rfl hφ9 g4,g5⟩)
theorem zc7 {α:Type}{bind:V→(St→Prop)→St→Prop}{test:(Bool→St→Prop)→St→Prop}{elt:(V→St→Prop)→St→Prop}{g:Mem→Prop}{R:List V→St→Prop} (I:St→Prop) (h:α→V) (f:α→Option V):
  ∀(vs:List α) (us:List V) (σ:St),I σ→(∀σ,I σ→g σ.mem)→
  (∀v,v∈vs→∀σ,I σ→∀(K:V→St→Prop) (K':St→Prop),(f v=none→∀σ',I σ'→K' σ')→(∀u,f v=some u→∀σ',I σ'→K u σ')→bind (h v) (test fun b σ₁=>if b then elt K σ₁ else K' σ₁) σ)→
  (∀σ',I σ'→R (us++vs.filterMap f) σ')→zed bind test elt g R (vs.map h) us σ
 | [],us,σ,i,hg,_,hR=>⟨hg σ i,by have:=hR σ i;rwa [List.filterMap_nil,Ag] at this⟩
 | v::vs,us,σ,i,hg,hs,hR=>by
  refine⟨hg σ i,hs v Aq σ i _ _ (fun e σ' i'=>?_) (fun u e σ' i'=>?_)⟩
  ·exact zc7 I h f vs us σ' i' hg (fun w hw=>hs w (Ao _ hw)) (by rwa [List.filterMap_cons_none e] at hR)
  ·exact zc7 I h f vs (us++[u]) σ' i' hg (fun w hw=>hs w (Ao _ hw)) (by rw[List.filterMap_cons_some e] at hR;simpa using hR)
theorem zeo {α:Type}{bind:V→(St→Prop)→St→Prop}{body:(Fl→St→Prop)→St→Prop}{g:Mem→Prop}{Q:Fl→St→Prop} (h:α→V) (I:List α→St→Prop) (hg: ∀l σ,I l σ→g σ.mem)
  (step: ∀p l σ,I (p::l) σ→∀Q1:Fl→St→Prop,(∀σ',I l σ'→Q1 .next σ')→(∀v σ',Q (.ret v) σ'→Q1 (.ret v) σ')→bind (h p) (body Q1) σ)
  (fin: ∀σ,I [] σ→Q .next σ): ∀(l:List α) (σ:St),I l σ→zdz bind body g Q (l.map h) σ
 | [],σ,i=>⟨hg _ _ i,fin σ i⟩
 | p::l,σ,i=>⟨hg _ _ i,step p l σ i _ (fun σ' i'=>zeo h I hg step fin l σ' i') (fun v σ' q=>q)⟩
theorem zvm (a:Nat): ∀n:Nat,zdt (a:Int) 1 n=(List.range' a n).map fun j:Nat=>V.int j
 | 0=>rfl
 | n+1=>by
  rw[List.range'_succ,List.map_cons,←zvm (a+1) n];rfl
theorem zok (a b:Nat):zq6 (a:Int) (b:Int) 1=(List.range' a (b-a)).map fun j:Nat=>V.int j:=by
 unfold zq6 Builtin.Range.rangeSize
 rw[if_pos (by decide),Int.ediv_one]
 have:(if (a:Int)<(b:Int) then(b:Int)-a-1+1 else 0).toNat=b-a:=by
  by_cases q:a<b
  ·rw[if_pos (Bj.mpr q),Int.sub_add_cancel,←Int.ofNat_sub (Ax q)];rfl
  ·rw[if_neg fun z=>q (Bj.mp z),Bz (Az q)];rfl
 rw[←zvm]
 exact congrArg _ this
theorem zz8 {m:Mem}{d:Addr}{r:Row}{K:List V→(Mem→Prop)→Prop} (hm:m d=some (.list (rv r))) (hs:r.length≤1000) (h:K (rv r) fun m'=>m' d=some (.list (rv r))):za5 m (.obj d) K:=
 ⟨_,hm,by rw[zl];unfold sma;exact ntr ‹_› (by decide),h⟩
noncomputable def zwo:List Str:=["self"]
noncomputable def zru:List Str:=[]
noncomputable def zpp:List (Str×NameKind):=[]
noncomputable def zpn:List Str:=[]
noncomputable def zg6:List Sm:=[
  .assign [.attr (.var 0) "Diff_Timeout"] (.lit (.flt 4607182418800017408)),
  .assign [.attr (.var 0) "Diff_EditCost"] (.lit (.int 4)),
  .assign [.attr (.var 0) "Match_Threshold"] (.lit (.flt 4602678819172646912)),
  .assign [.attr (.var 0) "Match_Distance"] (.lit (.int 1000)),
  .assign [.attr (.var 0) "Patch_DeleteThreshold"] (.lit (.flt 4602678819172646912)),
  .assign [.attr (.var 0) "Patch_Margin"] (.lit (.int 4)),
  .assign [.attr (.var 0) "Match_MaxBits"] (.lit (.int 32))]
noncomputable def zem:List (Str×V):=[("Diff_Timeout",.flt 4607182418800017408),("Diff_EditCost",.int 4),("Match_Threshold",.flt 4602678819172646912),("Match_Distance",.int 1000),("Patch_DeleteThreshold",.flt 4602678819172646912),("Patch_Margin",.int 4),("Match_MaxBits",.int 32)]
theorem zdi {n:String}{v:V}: ∀{fs:List (Str×V)},(fs.map (·.1)).contains (Str.ofString n)=false→zn5 n v fs=fs++[(Str.ofString n,v)]
 | [],_=>rfl
 | (x,u)::r,h=>by
  simp only[List.map_cons,List.contains_cons,Bool.or_eq_false_iff,beq_eq_false_iff_ne] at h
  unfold zn5
  rw[if_neg (Ne.symm h.1),zdi h.2];rfl
theorem zgr {n:String}: ∀{fs:List (Str×V)},(fs.map (·.1)).contains (Str.ofString n)=false→yD n fs=none
 | [],_=>rfl
 | (x,u)::r,h=>by
  simp only[List.map_cons,List.contains_cons,Bool.or_eq_false_iff,beq_eq_false_iff_ne] at h
  unfold yD
  rw[if_neg (Ne.symm h.1),zgr h.2]
noncomputable def zc3:List Str:=["Diff_Timeout","Diff_EditCost","Match_Threshold","Match_Distance","Patch_DeleteThreshold","Patch_Margin","Match_MaxBits"]
theorem zrt:zem.map (·.1)=zc3:=rfl
theorem zqr: ∀n∈ztd,zc3.contains (Str.ofString n)=false:=by decide +kernel
theorem z2g (n:String) (h:zfe n=true):yD n zem=none:=zgr (by rw[zrt];exact zqr n (List.contains_iff_mem.mp h))
theorem zol {P:PC}{σ:St}{o:Ex}{n:String}{v:V}{Q:St→Prop}:zi6 P (.attr o n) v Q σ=wpE P o (fun ov σ₁=> ∃a d fs,ov= .obj a∧σ₁.mem a=some (.inst P.cls d)∧σ₁.mem d=some (.dict fs)∧fs.length≤100∧P.fld n=true∧
   Q {σ₁ with mem:=upd σ₁.mem d (.dict (zn5 n v fs))}) σ:=rfl
theorem zhp (cls:Addr) (n:String) (h:["Diff_Timeout","Diff_EditCost","Match_Threshold","Match_Distance","Patch_DeleteThreshold","Patch_Margin","Match_MaxBits"].contains n=true):(za9 cls).fld n=true:=h
theorem z66 (cls t d:Addr) (m:Mem) (hI:m t=some (.inst cls d)) (hD:m d=some (.dict [])) (Q:V→Mem→Prop) (q: ∀m',m' t=some (.inst cls d)→m' d=some (.dict zem)→(∀a o,a≠d→m a=some o→m' a=some o)→Q .none m'):
  zk (za9 cls) zg6 (fun fl σ'=>Q (retV fl) σ'.mem) ⟨[V.obj t].map some++List.replicate 0 none,m⟩:=by
 have hne:t≠d:=fun e=>by subst e;rw[hI] at hD;cases hD
 have one: ∀(n:String) (v:V) (k:Nat) (m:Mem) (ss:List Sm) (Q:Fl→St→Prop),m t=some (.inst cls d)→m d=some (.dict (zem.take k))→(za9 cls).fld n=true→zn5 n v (zem.take k)=zem.take (k+1)→
   (∀m',m'=upd m d (.dict (zem.take (k+1)))→m' t=some (.inst cls d)→m' d=some (.dict (zem.take (k+1)))→zk (za9 cls) ss Q ⟨[some (.obj t)],m'⟩)→zk (za9 cls) (.assign [.attr (.var 0) n] (.lit v)::ss) Q ⟨[some (.obj t)],m⟩:=fun n v k m ss Q h1 h2 h3 h4 h5=>by
  refine ssx fun Q1 n1=>?_
  dsimp only[r_lit,r_var,r_bin,r_neg,r_not,r_list,r_tup,r_cmp,r_band,r_bor,r_idx,r_slc,r_attr,r_bi,r_call,r_me,r_imeth,r_comp,r_ch2,r_es0,r_es1,r_ch1,r_bo1,r_bo2,r_tnot,r_tband,r_tbor,r_tcmp,r_tvar,r_tcall,r_tme,r_tidx,r_tbi,r_ts0,r_ts1,r_tgs0,r_tgs1,r_sexpr,r_sassign,r_saug,r_sdel,r_sife,r_swhl,r_sfr,r_sret,r_ss0,r_ss1,tg_var,tg_tup,tg_idx,tg_slc,bin_add,bin_sub,bin_mul,bin_div,bin_mod,bin_cat,cmp_eqi,cmp_eqs,cmp_nei,cmp_nes,cmp_lt,cmp_le,cmp_gt,cmp_ge,tr_none,tr_bool,tr_int,tr_str,tr_tup,ix_str,ix_tup,sl_ii,sl_in,sl_ni,bi_lens,bi_lent,bi_min,bi_rng,bi_rng2,me_find,me_find2,ok_find,me_app,ok_app,me_ins,me_pop,me_join,me_ends,me_starts,ok_ins,ok_pop,ok_join,ok_ends,ok_starts,it_str,it_rng,neg_int,aug_addi,aug_adds,aug_subi,St.set,St.setAll,List.map_cons,List.map_nil,List.replicate,List.cons_append,List.nil_append,List.getElem?_cons_succ,List.getElem?_cons_zero,List.set_cons_succ,List.set_cons_zero,List.length_cons,List.length_nil,dreduceIte,retV,zol]
  refine⟨t,d,_,rfl,h1,h2,by simp[zem];exact zm 2023106163507752 rfl (Nat.min_le_right _ _),h3,n1 _ ?_⟩
  rw[h4]
  exact h5 _ rfl (by rw[upn _ _ hne];exact h1) (ups _ _ _)
 unfold zg6
 refine one _ _ 0 m _ _ hI hD (zhp _ _ (by decide +kernel)) rfl fun m1 e1 i1 d1=>?_
 refine one _ _ 1 m1 _ _ i1 d1 (zhp _ _ (by decide +kernel)) (by rw[zdi (by decide +kernel)];rfl) fun m2 e2 i2 d2=>?_
 refine one _ _ 2 m2 _ _ i2 d2 (zhp _ _ (by decide +kernel)) (by rw[zdi (by decide +kernel)];rfl) fun m3 e3 i3 d3=>?_
 refine one _ _ 3 m3 _ _ i3 d3 (zhp _ _ (by decide +kernel)) (by rw[zdi (by decide +kernel)];rfl) fun m4 e4 i4 d4=>?_
 refine one _ _ 4 m4 _ _ i4 d4 (zhp _ _ (by decide +kernel)) (by rw[zdi (by decide +kernel)];rfl) fun m5 e5 i5 d5=>?_
 refine one _ _ 5 m5 _ _ i5 d5 (zhp _ _ (by decide +kernel)) (by rw[zdi (by decide +kernel)];rfl) fun m6 e6 i6 d6=>?_
 refine one _ _ 6 m6 _ _ i6 d6 (zhp _ _ (by decide +kernel)) (by rw[zdi (by decide +kernel)];rfl) fun m7 e7 i7 d7=>?_
 refine zc (q m7 i7 d7 fun a o ha h=>?_)
 rw[e7,upn _ _ ha,e6,upn _ _ ha,e5,upn _ _ ha,e4,upn _ _ ha,e3,upn _ _ ha,e2,upn _ _ ha,e1,upn _ _ ha];exact h
noncomputable def pd (p:z8):PyData:= .tuple [.int p.1,.str (mkS p.2)]
theorem z0a {m:Mem}{a:Addr}{r:Row} (h:m a=some (.list (rv r))):rd 8 m (.obj a)=some (.list (r.map pd)):=by
 have e: ∀ys:Row,(rv ys).mapM (rd 7 m)=some (ys.map pd):=fun ys=>by
  induction ys with
  | nil=>rfl
  | cons y ys ih=>
   show((pv y)::rv ys).mapM (rd 7 m)=_
   rw[List.mapM_cons,ih];rfl
 rw[zzz h,e];rfl
theorem Lv.call {A:Around}{k:Nat} (h:Lv A (k+1)) (C:Addr):Lv (A.under (.builtin "type.__call__" ⟨[.ref C],[]⟩)) k:=by
 have hw:Code.weight (.builtin "type.__call__" ⟨[.ref C],[]⟩)≤1:=Nat.le_of_eq (by kernel_rfl)
 have hu:Code.cUnits (.builtin "type.__call__" ⟨[.ref C],[]⟩)≤4:=by
  have e:Code.cUnits (.builtin "type.__call__" ⟨[.ref C],[]⟩)=1:=by kernel_rfl
  exact Br _
 refine⟨h.hd,?_,?_⟩
 ·have:=h.dp;show A.depth+_+k<_;exact zT 127438831334109840764497197269544 rfl hw this
 ·have:=h.un;show A.units+_+4 * k+80<_;exact zT 143315762540464766331251359756859831030366339624 rfl hw this
theorem z5j {K:Frag}{h:Heap}{mg:Str→Option Value}{n:String}{f:Value} (X:K.In h) (g:h.Ns mainGlobals mg) (e:mg (Str.ofString n)=some f) (h1:fnV K n= .ref (fnA K n)):f= .ref (fnA K n):=by
 unfold fnV at h1
 cases q:nsIn K mainGlobals (Str.ofString n) with
 | none=>rw[q] at h1;cases h1
 | some o=>
  cases o with
  | none=>rw[q] at h1;cases h1
  | some v=>
   have:=mg_of X g q
   rw[e] at this
   cases this
   rw[q] at h1
   exact h1
theorem zk1 {i:Nat}{v:V}{Q:St→Prop}{σ:St}:ze7 true [i] v Q σ=Q (σ.set i v):=rfl
noncomputable def neT (p:z8):Option V:=if p.2=[] then none else some (pv p)
theorem z2d (r:Row):r.filterMap neT=rv (ne r):=by
 induction r with
 | nil=>rfl
 | cons p r ih=>
  rw[zfg]
  by_cases h:p.2=[]
  ·rw[List.filterMap_cons_none (show neT p=none from if_pos h),ih,if_pos h];rfl
  ·rw[List.filterMap_cons_some (show neT p=some (pv p) from if_neg h),ih,if_neg h];rfl
theorem z1x {P:PC}{d:Addr}{R:Row}{m:Mem}{i:Nat}{L:List (Option V)}{K:V→St→Prop} (hm:m d=some (.list (rv R))) (hs:R.length≤5000) (hL:L[i]? =some (some (.obj d))) (h: ∀c,m c=none→K (.obj c) ⟨L,upd m c (.list (rv (ne R)))⟩):
  wpE P (.comp (.var 0) true [0] (.var i) [.cmp (.idx (.var 0) (.lit (.int 1))) [.NotEq] [.lit (.str [])]] 1 []) K ⟨L,m⟩:=by
 rw[r_comp,r_var]
 show match L[i]? with | some (some v)=>_ | _=>False
 rw[hL]
 have sR:sma (rv R).length:=by rw[zl];exact ntr hs (by decide)
 refine(show ∃vs,m d=some (.list vs)∧sma vs.length∧_ from⟨_,hm,sR,sR,?_⟩)
 refine zc7 (fun σ=> ∃x,σ=⟨[x],m⟩) pv neT R [] _ ⟨none,rfl⟩ (by rintro _ ⟨x,rfl⟩;exact hm) ?_ ?_
 ·rintro p _ _ ⟨x,rfl⟩ K K' h1 h2
  have g1:p.2=[]→∀σ',(∃x,σ'=⟨[x],m⟩)→K' σ':=fun q=>h1 (if_pos q)
  have g2: ¬p.2=[]→∀σ',(∃x,σ'=⟨[x],m⟩)→K (pv p) σ':=fun q=>h2 _ (if_neg q)
  rw[zk1]
  walk_at "D"
  refine z0 ?_
  walk_at "D"
  by_cases q:p.2=[]
  ·rw[Af q];exact g1 q _ ⟨_,rfl⟩
  ·rw[Ae q];exact g2 q _ ⟨_,rfl⟩
 ·rintro _ ⟨x,rfl⟩ w hw
  rw[List.nil_append,z2d]
  exact h w hw
noncomputable def zao:List Str:=["self","text1","text2","deadline"]
noncomputable def yP:List Str:=["text1_length","text2_length","max_d","v_offset","v_length","v1","v2","delta","front","k1start","k1end","k2start","k2end","d","k1","k1_offset","x1","y1","k2_offset","x2","k2","y2"]
noncomputable def zcl:List (Str×NameKind):=[("len",.globalImplicit),("range",.globalImplicit)]
noncomputable def zcj:List Str:=[]
noncomputable def zb0:List Sm:=[
  .aug 20 .Add (.lit (.int 1)),
  .aug 21 .Add (.lit (.int 1))]
noncomputable def zek:List Sm:=[
  .assign [.var 23] (.bin .Sub (.var 4) (.idx (.var 10) (.var 22))),
  .ife (.cmp (.var 20) [.GtE] [.var 23]) [
   .ret (.imeth (.var 0) "diff_bisectSplit" [.var 1,.var 2,.var 20,.var 21,.var 3])] []]
noncomputable def zaj:List Sm:=[
  .assign [.var 22] (.bin .Sub (.bin .Add (.var 7) (.var 11)) (.var 18)),
  .ife (.band [.cmp (.var 22) [.GtE] [.lit (.int 0)],.cmp (.var 22) [.Lt] [.var 8],.cmp (.idx (.var 10) (.var 22)) [.NotEq] [.neg (.lit (.int 1))]]) zek []]
noncomputable def zaq:List Sm:=[
  .assign [.var 19] (.bin .Add (.var 7) (.var 18)),
  .ife (.bor [.cmp (.var 18) [.Eq] [.neg (.var 17)],.band [.cmp (.var 18) [.NotEq] [.var 17],.cmp (.idx (.var 9) (.bin .Sub (.var 19) (.lit (.int 1)))) [.Lt] [.idx (.var 9) (.bin .Add (.var 19) (.lit (.int 1)))]]]) [
   .assign [.var 20] (.idx (.var 9) (.bin .Add (.var 19) (.lit (.int 1))))] [
   .assign [.var 20] (.bin .Add (.idx (.var 9) (.bin .Sub (.var 19) (.lit (.int 1)))) (.lit (.int 1)))],
  .assign [.var 21] (.bin .Sub (.var 20) (.var 18)),
  .whl (.band [.cmp (.var 20) [.Lt] [.var 4],.cmp (.var 21) [.Lt] [.var 5],.cmp (.idx (.var 1) (.var 20)) [.Eq] [.idx (.var 2) (.var 21)]]) zb0,
  .assign [.idx (.var 9) (.var 19)] (.var 20),
  .ife (.cmp (.var 20) [.Gt] [.var 4]) [
   .aug 14 .Add (.lit (.int 2))] [
   .ife (.cmp (.var 21) [.Gt] [.var 5]) [
    .aug 13 .Add (.lit (.int 2))] [
    .ife (.var 12) zaj []]]]
noncomputable def zcb:List Sm:=[
  .aug 23 .Add (.lit (.int 1)),
  .aug 25 .Add (.lit (.int 1))]
noncomputable def zeg:List Sm:=[
  .assign [.var 20] (.idx (.var 9) (.var 19)),
  .assign [.var 21] (.bin .Sub (.bin .Add (.var 7) (.var 20)) (.var 19)),
  .assign [.var 23] (.bin .Sub (.var 4) (.var 23)),
  .ife (.cmp (.var 20) [.GtE] [.var 23]) [
   .ret (.imeth (.var 0) "diff_bisectSplit" [.var 1,.var 2,.var 20,.var 21,.var 3])] []]
noncomputable def zar:List Sm:=[
  .assign [.var 19] (.bin .Sub (.bin .Add (.var 7) (.var 11)) (.var 24)),
  .ife (.band [.cmp (.var 19) [.GtE] [.lit (.int 0)],.cmp (.var 19) [.Lt] [.var 8],.cmp (.idx (.var 9) (.var 19)) [.NotEq] [.neg (.lit (.int 1))]]) zeg []]
noncomputable def zan:List Sm:=[
  .assign [.var 22] (.bin .Add (.var 7) (.var 24)),
  .ife (.bor [.cmp (.var 24) [.Eq] [.neg (.var 17)],.band [.cmp (.var 24) [.NotEq] [.var 17],.cmp (.idx (.var 10) (.bin .Sub (.var 22) (.lit (.int 1)))) [.Lt] [.idx (.var 10) (.bin .Add (.var 22) (.lit (.int 1)))]]]) [
   .assign [.var 23] (.idx (.var 10) (.bin .Add (.var 22) (.lit (.int 1))))] [
   .assign [.var 23] (.bin .Add (.idx (.var 10) (.bin .Sub (.var 22) (.lit (.int 1)))) (.lit (.int 1)))],
  .assign [.var 25] (.bin .Sub (.var 23) (.var 24)),
  .whl (.band [.cmp (.var 23) [.Lt] [.var 4],.cmp (.var 25) [.Lt] [.var 5],.cmp (.idx (.var 1) (.bin .Sub (.neg (.var 23)) (.lit (.int 1)))) [.Eq] [.idx (.var 2) (.bin .Sub (.neg (.var 25)) (.lit (.int 1)))]]) zcb,
  .assign [.idx (.var 10) (.var 22)] (.var 23),
  .ife (.cmp (.var 23) [.Gt] [.var 4]) [
   .aug 16 .Add (.lit (.int 2))] [
   .ife (.cmp (.var 25) [.Gt] [.var 5]) [
    .aug 15 .Add (.lit (.int 2))] [
    .ife (.not (.var 12)) zar []]]]
noncomputable def zb5:List Sm:=[
  .fr (.var 18) (.bi .range [.bin .Add (.neg (.var 17)) (.var 13),.bin .Sub (.bin .Add (.var 17) (.lit (.int 1))) (.var 14),.lit (.int 2)]) zaq,
  .fr (.var 24) (.bi .range [.bin .Add (.neg (.var 17)) (.var 15),.bin .Sub (.bin .Add (.var 17) (.lit (.int 1))) (.var 16),.lit (.int 2)]) zan]
noncomputable def yT:List Sm:=[
  .assign [.var 4] (.bi .len [.var 1]),
  .assign [.var 5] (.bi .len [.var 2]),
  .assign [.var 6] (.bin .FloorDiv (.bin .Add (.bin .Add (.var 4) (.var 5)) (.lit (.int 1))) (.lit (.int 2))),
  .assign [.var 7] (.var 6),
  .assign [.var 8] (.bin .Mult (.lit (.int 2)) (.var 6)),
  .assign [.var 9] (.bin .Mult (.list [.neg (.lit (.int 1))]) (.var 8)),
  .assign [.idx (.var 9) (.bin .Add (.var 7) (.lit (.int 1)))] (.lit (.int 0)),
  .assign [.var 10] (.slc (.var 9) (.lit .none) (.lit .none) (.lit .none)),
  .assign [.var 11] (.bin .Sub (.var 4) (.var 5)),
  .assign [.var 12] (.cmp (.bin .Mod (.var 11) (.lit (.int 2))) [.NotEq] [.lit (.int 0)]),
  .assign [.var 13] (.lit (.int 0)),
  .assign [.var 14] (.lit (.int 0)),
  .assign [.var 15] (.lit (.int 0)),
  .assign [.var 16] (.lit (.int 0)),
  .fr (.var 17) (.bi .range [.var 6]) zb5,
  .ret (.list [.tup [.attr (.var 0) "DIFF_DELETE",.var 1],.tup [.attr (.var 0) "DIFF_INSERT",.var 2]])]
noncomputable def vl (off:Nat) (f:Int→Int):List V:=(List.range (2 * off)).map fun(i:Nat)=>V.int (f ((i:Int)-off))
theorem zhq (off:Nat) (f:Int→Int):(vl off f).length=2 * off:=by unfold vl;rw[Ar,List.length_range]
theorem zwx {off:Nat}{f:Int→Int}{i:Nat} (h:i<2 * off):(vl off f)[i]? =some (.int (f ((i:Int)-off))):=by
 unfold vl;rw[Bm,List.getElem?_range h];rfl
theorem z6w {off:Nat}{f:Int→Int}{k:Int} (h1:-(off:Int)≤k) (h2:k<off):zK (vl off f) ((off:Int)+k)=some (.int (f k)):=by
 obtain⟨i,hi⟩: ∃i:Nat,(off:Int)+k=i:=⟨((off:Int)+k).toNat,by exact Ad (yR 23319024718555941762083 rfl (Int.toNat_of_nonneg (zbr 292522895320611872 rfl h1))) (yR 2543925548432564952610 rfl (Int.toNat_of_nonneg (zbr 292522895320611872 rfl h1)))⟩
 rw[hi,zba _ _ (by rw[zhq];exact yR 358014151020663532145279521 rfl h2 hi),zwx (by exact yR 358014151020663532145279521 rfl h2 hi)]
 congr 3;exact Ad (yR 2543379486977746279971 rfl hi) (yR 4450097171703007343650 rfl hi)
theorem zzf {off:Nat}{f:Int→Int}{k v:Int}{i:Nat} (hi:(off:Int)+k=i) (h:i<2 * off):(vl off f).set i (.int v)=vl off (up f k v):=by
 apply List.ext_getElem?
 intro j
 by_cases hj:j<2 * off
 ·rw[zwx hj]
  by_cases e:i=j
  ·subst e
   rw[List.getElem?_set_self (by rw[zhq];exact h),show((i:Int)-off)=k by exact Ad (yR 2543379486977746279971 rfl hi) (yR 4450097171703007343650 rfl hi),zjq]
  ·rw[List.getElem?_set_ne e,zwx hj,zr8 _ _ (by grind)]
 ·rw[List.getElem?_eq_none (by rw[List.length_set,zhq];exact ze 81146217358239788 rfl hj),List.getElem?_eq_none (by rw[zhq];exact ze 81146217358239788 rfl hj)]
theorem zd0 {m:Mem}{l:Addr}{off:Nat}{f:Int→Int}{k i:Int}{K:V→Prop} (hm:m l=some (.list (vl off f))) (hi:i=(off:Int)+k) (h1:-(off:Int)≤k) (h2:k<off) (ho:off≤1000) (q:K (.int (f k))):zj9 m (.obj l) (.int i) K:=by
 subst hi
 exact⟨by unfold zr;exact⟨zbr 160825502900741088490475813920 rfl h1,zbr 5266212349436448044126045170430248944161 rfl h2 ho⟩,_,_,hm,z6w h1 h2,q⟩
theorem z6v {p:Prop} [Decidable p] {X Y:Prop} (hp: ¬p) (x:X):if decide p=false then X else Y:=by rw[if_pos (Ae hp)];exact x
theorem zy8 {p:Prop} [Decidable p] {X Y:Prop} (hp:p) (y:Y):if decide p=false then X else Y:=by rw[if_neg (by rw[Af hp];decide)];exact y
noncomputable abbrev bsS (s:V) (a b:Tx) (dl:V) (off:Nat) (l1 l2:Addr) (ks ke ks2 ke2:Nat) (d:Int) (u18 u19 u20 u21 u22 u23 u24 u25:Option V) (m:Mem):St:=
 ⟨[some s,some (.str a),some (.str b),some dl,some (.int a.length),some (.int b.length),some (.int off),some (.int off),some (.int (2 * off)),some (.obj l1),some (.obj l2),some (.int ((a.length:Int)-b.length)),some (.bool (zgn a b)),
  some (.int ks),some (.int ke),some (.int ks2),some (.int ke2),some (.int d),u18,u19,u20,u21,u22,u23,u24,u25],m⟩
section
variable {P:PC}{Q:Fl→St→Prop}{s dl:V}{a b:Tx}{off:Nat}{l1 l2:Addr}{ks ke ks2 ke2:Nat}{d:Nat}{u18 u19 u20 u21 u22 u23 u24 u25:Option V}{m:Mem}{f g:Int→Int}
inductive IW (N:Nat) (S:Nat→St) (n:Nat) (σ:St):Prop
 | mk (t:Nat):t≤N→n=N-t→σ=S t→IW N S n σ
theorem z7p {p:Int}{x y:Nat} (hx:sma a.length) (hy:sma b.length) (h:Q .next (bsS s a b dl off l1 l2 ks ke ks2 ke2 d (some (.int p)) u19 (some (.int ((x+lcp (a.drop x) (b.drop y):Nat):Int))) (some (.int ((y+lcp (a.drop x) (b.drop y):Nat):Int))) u22 u23 u24 u25 m)):
  wpS P (.whl (.band [.cmp (.var 20) [.Lt] [.var 4],.cmp (.var 21) [.Lt] [.var 5],.cmp (.idx (.var 1) (.var 20)) [.Eq] [.idx (.var 2) (.var 21)]]) zb0) Q (bsS s a b dl off l1 l2 ks ke ks2 ke2 d (some (.int p)) u19 (some (.int x)) (some (.int y)) u22 u23 u24 u25 m):=by
 refine⟨IW (lcp (a.drop x) (b.drop y)) fun t=>bsS s a b dl off l1 l2 ks ke ks2 ke2 d (some (.int p)) u19 (some (.int ((x+t:Nat):Int))) (some (.int ((y+t:Nat):Int))) u22 u23 u24 u25 m,⟨_,0,Bq _,rfl,rfl⟩,?_⟩
 rintro n σ ⟨t,ht,rfl,rfl⟩
 have hl:=yZ (a.drop x) (b.drop y)
 rw[Ap,Ap] at hl
 unfold zb0
 walk_at "D"
 have out: ¬t<lcp (a.drop x) (b.drop y)→Q .next (bsS s a b dl off l1 l2 ks ke ks2 ke2 d (some (.int p)) u19 (some (.int ((x+t:Nat):Int))) (some (.int ((y+t:Nat):Int))) u22 u23 u24 u25 m):=fun q=>by
  have:t=lcp (a.drop x) (b.drop y):=Ai ht (Az q)
  rw[this];exact h
 by_cases c1:x+t<a.length
 ·refine zax (Bj.mpr c1) ?_
  by_cases c2:y+t<b.length
  ·refine zax (Bj.mpr c2) ⟨zag (ntr (Ax c1) hx),_,(zba a _ c1).trans (Ay c1),zag (ntr (Ax c2) hy),_,(zba b _ c2).trans (Ay c2),?_⟩
   have key:t<lcp (a.drop x) (b.drop y)↔a[x+t]=b[y+t]:=by
    constructor
    ·intro q
     have e:=(zah (t+1) (a.drop x) (b.drop y) (ntr q (yZ _ _).1) (ntr q (yZ _ _).2)).mp q
     have:=congrArg (fun l=>l[t]?) e
     simp only[List.getElem?_take,List.getElem?_drop] at this
     rw[if_pos (Cb t),if_pos (Cb t),Ay c1,Ay c2] at this
     exact Option.some.inj this
    ·intro e
     refine Nat.lt_of_not_le fun q=>?_
     have e2:t=lcp (a.drop x) (b.drop y):=Ai ht q
     subst e2
     exact(zj7 a b x y).stop c1 c2 e
   by_cases c3:t<lcp (a.drop x) (b.drop y)
   ·refine zax (by rw[key.mp c3]) ?_
    exact⟨_,Nat.sub_lt_sub_left c3 (Cb t),t+1,c3,rfl,rfl⟩
   ·exact zcv (fun q=>c3 (key.mpr (by simpa using q))) (out c3)
  ·exact zcv (fun q=>c2 (Bj.mp q)) (out fun q=>c2 (Nat.add_lt_of_lt_sub' (Ba q hl.2)))
 ·exact zcv (fun q=>c1 (Bj.mp q)) (out fun q=>c1 (Nat.add_lt_of_lt_sub' (Ba q hl.1)))
end
theorem zlt {n i:Nat} (h:i<n):zn4 n (i:Int)=some i:=by
 unfold zn4 seqIndex?
 have e:(if (i:Int)<0 then(i:Int)+n else(i:Int))=i:=if_neg (by exact Bk.mpr (zm 983088 rfl))
 simp only[e]
 rw[if_pos (by simp;omega)];simp
section
variable {P:PC}{Q:Fl→St→Prop}{s dl:V}{a b:Tx}{off:Nat}{l1 l2:Addr}{ks ke ks2 ke2:Nat}{d:Nat}{u18 u19 u20 u21 u22 u23 u24 u25:Option V}{m:Mem}{f g:Int→Int}
theorem z05 {p:Int} (hm:m l1=some (.list (vl off f))) (ho:off≤1000) (ho2:2≤off) (hd:d<off) (h1:-(d:Int)≤p) (h2:p≤d)
  (h:Q .next (bsS s a b dl off l1 l2 ks ke ks2 ke2 d (some (.int p)) (some (.int ((off:Int)+p))) (some (.int (pick d p f))) u21 u22 u23 u24 u25 m)):
  wpS P (.ife (.bor [.cmp (.var 18) [.Eq] [.neg (.var 17)],.band [.cmp (.var 18) [.NotEq] [.var 17],.cmp (.idx (.var 9) (.bin .Sub (.var 19) (.lit (.int 1)))) [.Lt] [.idx (.var 9) (.bin .Add (.var 19) (.lit (.int 1)))]]]) [
   .assign [.var 20] (.idx (.var 9) (.bin .Add (.var 19) (.lit (.int 1))))] [
   .assign [.var 20] (.bin .Add (.idx (.var 9) (.bin .Sub (.var 19) (.lit (.int 1)))) (.lit (.int 1)))]) Q
   (bsS s a b dl off l1 l2 ks ke ks2 ke2 d (some (.int p)) (some (.int ((off:Int)+p))) u20 u21 u22 u23 u24 u25 m):=by
 refine zf fun K kt kf=>?_
 have yes: ∀(_:pick d p f=f (p+1)) (_:p+1<off),K true (bsS s a b dl off l1 l2 ks ke ks2 ke2 d (some (.int p)) (some (.int ((off:Int)+p))) u20 u21 u22 u23 u24 u25 m):=fun e q=>kt _ (by
  walk_at "D"
  rw[e] at h
  exact zd0 hm (k:=p+1) (by exact Ad (zbr 36938591248295896112 rfl) (zbr 36930054640025793584 rfl)) (by exact yR 154932870914035706428457513 rfl hd h1) q ho h)
 have no: ∀(_:pick d p f=f (p-1)+1) (_:-(off:Int)≤p-1),K false (bsS s a b dl off l1 l2 ks ke ks2 ke2 d (some (.int p)) (some (.int ((off:Int)+p))) u20 u21 u22 u23 u24 u25 m):=fun e q=>kf _ (by
  walk_at "D"
  rw[e] at h
  exact zd0 hm (k:=p-1) (by exact Ad (zbr 36943094847923267120 rfl) (zbr 36930055189785801776 rfl)) q (by exact yR 2986899998541986885337641 rfl hd h2) ho h)
 clear h kt kf
 walk_at "D"
 by_cases c1:p=-(d:Int)
 ·exact zy8 c1 (yes (if_pos (.inl c1)) (by exact yR 4552384568943560653611048 rfl ho2 c1))
 ·refine z6v c1 ?_
  by_cases c2:p=(d:Int)
  ·exact zgv c2 (no (if_neg (by rintro (q | q);exact c1 q;exact q.1 c2)) (by exact yR 19368822473543580366479400 rfl ho2 c2))
  ·refine zj3 c2 (zd0 hm (k:=p-1) (by exact Ad (zbr 36943094847923267120 rfl) (zbr 36930055189785801776 rfl)) (by exact yR 154951760379967185009312297 rfl hd h1) (by exact yR 2986899998541986885337641 rfl hd h2) ho (zd0 hm (k:=p+1) (by exact Ad (zbr 36938591248295896112 rfl) (zbr 36930054640025793584 rfl)) (by exact yR 154932870914035706428457513 rfl hd h1) (by lia) ho ?_))
   walk_at "D"
   by_cases c3:f (p-1)<f (p+1)
   ·rw[Af c3];exact yes (if_pos (.inr ⟨c2,c3⟩)) (by grind)
   ·rw[Ae c3];exact no (if_neg (by rintro (q | q);exact c1 q;exact c3 q.2)) (by exact yR 154951760379967185009312297 rfl hd h1)
theorem z5g {p:Int}{x y:Nat} (hm:m l2=some (.list (vl off g))) (ho:off≤1000) (hp:p=(x:Int)-y) (hx:x≤a.length) (hy:y≤b.length)
  (hN: ¬Hit a b off g p x→∀u22 u23,Q .next (bsS s a b dl off l1 l2 ks ke ks2 ke2 d (some (.int p)) u19 (some (.int x)) (some (.int y)) u22 u23 u24 u25 m))
  (hR:Hit a b off g p x→∀loc,P.meth "diff_bisectSplit" [s,.str a,.str b,.int x,.int y,dl] (fun r m'=>Q (.ret r) ⟨loc,m'⟩) m)
  (hs: ∃A dd fs,s= .obj A∧m A=some (.inst P.cls dd)∧m dd=some (.dict fs)∧yD "diff_bisectSplit" fs=none):
  zk P zaj Q (bsS s a b dl off l1 l2 ks ke ks2 ke2 d (some (.int p)) u19 (some (.int x)) (some (.int y)) u22 u23 u24 u25 m):=by
 unfold zaj
 refine ssx fun Q1 n1=>?_
 walk_at "D"
 refine n1 _ (ssn (zf fun K kt kf=>?_))
 have hlx:(x:Int)≤a.length:=Int.ofNat_le.mpr hx
 have hly:(x:Int)-p≤b.length:=by rw[hp];exact zj 23321048326212665541160 rfl hy
 have no: ¬Hit a b off g p x→K false (bsS s a b dl off l1 l2 ks ke ks2 ke2 d (some (.int p)) u19 (some (.int x)) (some (.int y)) (some (.int ((off:Int)+((a.length:Int)-b.length)-p))) u23 u24 u25 m):=fun q=>kf _ (hN q _ _)
 walk_at "D"
 by_cases c1:0≤(off:Int)+((a.length:Int)-b.length)-p
 ·refine zax c1 ?_
  by_cases c2:(off:Int)+((a.length:Int)-b.length)-p<2 * off
  ·refine zax c2 (zd0 hm (k:=(a.length:Int)-b.length-p) (by exact Ad (zbb 22574563145042216640666117680 rfl) (zbb 22574562290475180147871904816 rfl)) (by exact zbb 1479446570283131820520734903697440 rfl c1) (by exact zbb 311722742333569298731940934626813473 rfl c2) ho ?_)
   walk_at "D"
   by_cases c3:g ((a.length:Int)-b.length-p)=-1
   ·rw[Af c3]
    exact no fun q=>q.2.2.2.2.1 c3
   ·rw[Ae c3]
    refine kt _ ?_
    unfold zek
    refine ssx fun Q2 n2=>?_
    walk_at "D"
    refine zd0 hm (k:=(a.length:Int)-b.length-p) (by exact Ad (zbb 22574563145042216640666117680 rfl) (zbb 22574562290475180147871904816 rfl)) (by exact zbb 1479446570283131820520734903697440 rfl c1) (by exact zbb 311722742333569298731940934626813473 rfl c2) ho ?_
    walk_at "D"
    refine n2 _ (ssn (zf fun K' kt' kf'=>?_))
    walk_at "D"
    by_cases c4:(a.length:Int)-g ((a.length:Int)-b.length-p)≤x
    ·rw[Af c4]
     refine kt' _ ?_
     walk_at "D"
     exact⟨hs,hR ⟨hlx,hly,by grind,by grind,c3,c4⟩ _⟩
    ·rw[Ae c4]
     exact kf' _ (hN (fun q=>c4 q.2.2.2.2.2) _ _)
  ·exact zcv c2 (no fun q=>by have:=q.2.2.2.1;exact zbb 311722742333493713020426946054400036 rfl c2 this)
 ·exact zcv c1 (no fun q=>by have:=q.2.2.1;exact zbb 1479446570283057992802354294400549 rfl c1 this)
noncomputable def zi1 (l1 l2:Addr) (m m':Mem):Prop:= ∀a o,a≠l1→a≠l2→m a=some o→m' a=some o
theorem zi1.refl (l1 l2:Addr) (m:Mem):zi1 l1 l2 m m:=fun _ _ _ _ e=>e
theorem zi1.trans {l1 l2:Addr}{m m' m'':Mem} (x:zi1 l1 l2 m m') (y:zi1 l1 l2 m' m''):zi1 l1 l2 m m'':=fun a o h h2 e=>y a o h h2 (x a o h h2 e)
theorem z3j {p:Int}{x1 y1:Nat} (hm2:m l2=some (.list (vl off g))) (ho:off≤1000) (hp:p=(x1:Int)-(y1:Int))
  (hN: ∀{i j:Nat},i=ks' a b x1 y1 ks→j=ke' a x1 ke→¬(zgn a b=true∧Hit a b off g p x1)→∀u22 u23,Q .next (bsS s a b dl off l1 l2 i j ks2 ke2 d (some (.int p)) u19 (some (.int x1)) (some (.int y1)) u22 u23 u24 u25 m))
  (hR:zgn a b=true∧Hit a b off g p x1→∀loc,P.meth "diff_bisectSplit" [s,.str a,.str b,.int x1,.int y1,dl] (fun r m'=>Q (.ret r) ⟨loc,m'⟩) m)
  (hs: ∃A dd fs,s= .obj A∧m A=some (.inst P.cls dd)∧m dd=some (.dict fs)∧yD "diff_bisectSplit" fs=none):
  zk P [.ife (.cmp (.var 20) [.Gt] [.var 4]) [.aug 14 .Add (.lit (.int 2))] [.ife (.cmp (.var 21) [.Gt] [.var 5]) [.aug 13 .Add (.lit (.int 2))] [.ife (.var 12) zaj []]]] Q
   (bsS s a b dl off l1 l2 ks ke ks2 ke2 d (some (.int p)) u19 (some (.int x1)) (some (.int y1)) u22 u23 u24 u25 m):=by
 refine ssn (zf fun K kt kf=>?_)
 walk_at "D"
 by_cases c1:a.length<x1
 ·rw[Af (Bj.mpr c1)]
  exact kt _ (hN (if_pos c1).symm (if_pos c1).symm (fun q=>absurd (Int.ofNat_le.mp q.2.1) (Nat.not_le_of_lt c1)) _ _)
 ·rw[Ae fun q=>c1 (Bj.mp q)]
  refine kf _ (ssn (zf fun K' kt' kf'=>?_))
  walk_at "D"
  by_cases c2:b.length<y1
  ·rw[Af (Bj.mpr c2)]
   exact kt' _ (hN ((if_neg c1).trans (if_pos c2)).symm (if_neg c1).symm (fun q=>absurd q.2.2.1 (by rw[hp];exact Int.not_le.mpr (zj 23358014583973809291817 rfl c2))) _ _)
  ·rw[Ae fun q=>c2 (Bj.mp q)]
   refine kf' _ (ssn (zf fun K2 kt2 kf2=>?_))
   have hN:=hN ((if_neg c1).trans (if_neg c2)).symm (if_neg c1).symm
   suffices go: ∀t,zgn a b=t→K2 t (bsS s a b dl off l1 l2 ks ke ks2 ke2 d (some (.int p)) u19 (some (.int x1)) (some (.int y1)) u22 u23 u24 u25 m) from go _ rfl
   intro t co
   cases t with
   | false=>exact kf2 _ (hN (fun q=>by rw[co] at q;cases q.1) _ _)
   | true=>exact kt2 _ (z5g hm2 ho hp (Az c1) (Az c2) (fun q=>hN fun z=>q z.2) (fun q loc=>hR ⟨co,q⟩ loc) hs)
theorem zyq {p:Int}{x y:Nat}{T:Tab} (hT:T.ks=ks∧T.ke=ke) (hm:m l1=some (.list (vl off T.f))) (hm2:m l2=some (.list (vl off g))) (hne:l1≠l2) (ho:off≤1000) (ho2:2≤off) (hd:d<off) (h1:-(d:Int)≤p) (h2:p≤d) (hx:sma a.length) (hy:sma b.length)
  (e1:pick d p T.f=x) (e2:p=(x:Int)-y)
  (hN: ¬(zgn a b=true∧Hit a b off g p (tx a b d p T.f))→∀m' u19 u20 u21 u22 u23,m' l1=some (.list (vl off (step a b d p T).f))→m' l2=some (.list (vl off g))→zi1 l1 l2 m m'→
   Q .next (bsS s a b dl off l1 l2 (step a b d p T).ks (step a b d p T).ke ks2 ke2 d (some (.int p)) u19 u20 u21 u22 u23 u24 u25 m'))
  (hR:zgn a b=true∧Hit a b off g p (tx a b d p T.f)→∀m' loc,zi1 l1 l2 m m'→P.meth "diff_bisectSplit" [s,.str a,.str b,.int (tx a b d p T.f),.int (tx a b d p T.f-p),dl] (fun r m'=>Q (.ret r) ⟨loc,m'⟩) m')
  (hs: ∀m',zi1 l1 l2 m m'→∃A dd fs,s= .obj A∧m' A=some (.inst P.cls dd)∧m' dd=some (.dict fs)∧yD "diff_bisectSplit" fs=none):
  zk P zaq Q (bsS s a b dl off l1 l2 ks ke ks2 ke2 d (some (.int p)) u19 u20 u21 u22 u23 u24 u25 m):=by
 obtain⟨rfl,rfl⟩:=hT
 have ht:tx a b d p T.f=((x+lcp (a.drop x) (b.drop y):Nat):Int):=by
  unfold tx;rw[e1,show((x:Int)-p).toNat=y by exact Ai (zbb 180910915598726644797557241379 rfl e2 (Int.toNat_of_nonneg (yR 299579473643385324066 rfl e2))) (zbb 338129340399785016752946741794 rfl e2 (Int.toNat_of_nonneg (yR 299579473643385324066 rfl e2))),Int.toNat_natCast];exact Ad (ze 317033342366768 rfl) (ze 347511210421808 rfl)
 have ht2:tx a b d p T.f-p=((y+lcp (a.drop x) (b.drop y):Nat):Int):=by rw[ht];exact Ad (zbb 42271000652164888154993653283 rfl e2) (zbb 2804914249259621151326011938 rfl e2)
 unfold zaq
 refine ssx fun Q1 n1=>?_
 walk_at "D"
 refine n1 _ (ssx fun Q2 n2=>z05 (f:=T.f) hm ho ho2 hd h1 h2 (n2 _ (ssx fun Q3 n3=>?_)))
 walk_at "D"
 rw[e1,show(x:Int)-p=(y:Int) by exact Ad (yR 23319024999993127794211 rfl e2) (yR 2396657840655343223330 rfl e2)]
 refine n3 _ (ssx fun Q4 n4=>z7p hx hy (n4 _ (ssx fun Q5 n5=>?_)))
 have hp:p=((x+lcp (a.drop x) (b.drop y):Nat):Int)-((y+lcp (a.drop x) (b.drop y):Nat):Int):=Ad (zbb 42271038142489761479399244322 rfl e2) (zbb 2806122564058985798748403235 rfl e2)
 have hf:up T.f p ((x+lcp (a.drop x) (b.drop y):Nat):Int)=(step a b d p T).f:=by rw[←ht];rfl
 have hS:(step a b d p T).ks=ks' a b (x+lcp (a.drop x) (b.drop y)) (y+lcp (a.drop x) (b.drop y)) T.ks∧(step a b d p T).ke=ke' a (x+lcp (a.drop x) (b.drop y)) T.ke:=by
  unfold step;rw[ht2,ht,Int.toNat_natCast,Int.toNat_natCast];exact⟨rfl,rfl⟩
 rw[ht2] at hR
 rw[ht] at hN hR
 clear ht ht2 e1
 generalize x+lcp (a.drop x) (b.drop y)=x1 at *
 generalize y+lcp (a.drop x) (b.drop y)=y1 at *
 walk_at "D"
 obtain⟨i,hi⟩: ∃i:Nat,(off:Int)+p=i:=⟨((off:Int)+p).toNat,by exact Ad (yR 23319024718555941762083 rfl (Int.toNat_of_nonneg (yR 2604975627321475961782825 rfl hd h1))) (yR 2543925548432564952610 rfl (Int.toNat_of_nonneg (yR 2604975627321475961782825 rfl hd h1)))⟩
 refine⟨l1,(off:Int)+p,_,i,rfl,rfl,by unfold zr;exact⟨yR 174826519772184709826221125410339 rfl hi,yR 44176191044181383554539181903589079603967165000 rfl ho hd h2⟩,hm,?_,n5 _ ?_⟩
 ·rw[zhq,hi];exact zlt (by exact zbb 23773695456255819188781533320774185 rfl hd h2 hi)
 rw[zzf hi (by exact zbb 23773695456255819188781533320774185 rfl hd h2 hi),hf]
 have mx:zi1 l1 l2 m (upd m l1 (.list (vl off (step a b d p T).f))):=fun a o h _ e=>by rw[upn _ _ h];exact e
 exact z3j (by rw[upn _ _ (Ne.symm hne)];exact hm2) ho hp (fun {i j} ei ej c u22 u23=>by
  obtain rfl:=ei.trans hS.1.symm
  obtain rfl:=ej.trans hS.2.symm
  exact hN c _ _ _ _ _ _ (ups _ _ _) (by rw[upn _ _ (Ne.symm hne)];exact hm2) mx) (fun c loc=>hR c _ loc mx) (hs _ mx)
end
theorem znn {α:Type} (xs:List α) {x:Nat} (h:x<xs.reverse.length):zK xs (-(x:Int)-1)=some xs.reverse[x]:=by
 have h':x<xs.length:=by rw[Ak] at h;exact h
 unfold zK
 have:seqIndex? (-(x:Int)-1) xs.length=some (xs.length-1-x):=by
  unfold seqIndex?
  have e:(if -(x:Int)-1<0 then -(x:Int)-1+xs.length else -(x:Int)-1)=((xs.length-1-x:Nat):Int):=by rw[if_pos (by exact zm 268953137 rfl)];exact Ad (zT 371287417379027283742222844370223659 rfl (Ab (ze 4982632415785 rfl h')) (Ab (zj 80321163501702457393705 rfl h' (Ab (ze 4982632415785 rfl h'))))) (zT 205262101112877700934674482208969770 rfl (Ab (ze 4982632415785 rfl h')) (Ab (zj 80321163501702457393705 rfl h' (Ab (ze 4982632415785 rfl h')))))
  simp only[e]
  rw[if_pos (by simp;exact zT 44167777895103762607903786 rfl (Ab (ze 4982632415785 rfl h')) (Ab (zj 80321163501702457393705 rfl h' (Ab (ze 4982632415785 rfl h')))))];simp
 rw[this,List.getElem_reverse]
 exact Ay (by exact zT 44167777895103762607903786 rfl (Ab (ze 4982632415785 rfl h')) (Ab (zj 80321163501702457393705 rfl h' (Ab (ze 4982632415785 rfl h')))))
section
variable {P:PC}{Q:Fl→St→Prop}{s dl:V}{a b:Tx}{off:Nat}{l1 l2:Addr}{ks ke ks2 ke2:Nat}{d:Nat}{u18 u19 u20 u21 u22 u23 u24 u25:Option V}{m:Mem}{f g:Int→Int}
theorem z72 {p:Int}{x y:Nat} (hx:sma a.length) (hy:sma b.length) (h:Q .next (bsS s a b dl off l1 l2 ks ke ks2 ke2 d u18 u19 u20 u21 u22 (some (.int ((x+lcp (a.reverse.drop x) (b.reverse.drop y):Nat):Int))) (some (.int p)) (some (.int ((y+lcp (a.reverse.drop x) (b.reverse.drop y):Nat):Int))) m)):
  wpS P (.whl (.band [.cmp (.var 23) [.Lt] [.var 4],.cmp (.var 25) [.Lt] [.var 5],.cmp (.idx (.var 1) (.bin .Sub (.neg (.var 23)) (.lit (.int 1)))) [.Eq] [.idx (.var 2) (.bin .Sub (.neg (.var 25)) (.lit (.int 1)))]]) zcb) Q (bsS s a b dl off l1 l2 ks ke ks2 ke2 d u18 u19 u20 u21 u22 (some (.int x)) (some (.int p)) (some (.int y)) m):=by
 refine⟨IW (lcp (a.reverse.drop x) (b.reverse.drop y)) fun t=>bsS s a b dl off l1 l2 ks ke ks2 ke2 d u18 u19 u20 u21 u22 (some (.int ((x+t:Nat):Int))) (some (.int p)) (some (.int ((y+t:Nat):Int))) m,⟨_,0,Bq _,rfl,rfl⟩,?_⟩
 rintro n σ ⟨t,ht,rfl,rfl⟩
 have ea:a.reverse.length=a.length:=Ak
 have eb:b.reverse.length=b.length:=Ak
 have stop:=(zj7 a.reverse b.reverse x y).stop
 have iff:=zah (t+1) (a.reverse.drop x) (b.reverse.drop y)
 have ga:=fun h=>znn a (x:=x+t) h
 have gb:=fun h=>znn b (x:=y+t) h
 have hl:=yZ (a.reverse.drop x) (b.reverse.drop y)
 rw[Ap,Ap,ea,eb] at hl
 unfold zcb
 walk_at "D"
 have out: ¬t<lcp (a.reverse.drop x) (b.reverse.drop y)→Q .next (bsS s a b dl off l1 l2 ks ke ks2 ke2 d u18 u19 u20 u21 u22 (some (.int ((x+t:Nat):Int))) (some (.int p)) (some (.int ((y+t:Nat):Int))) m):=fun q=>by
  have:t=lcp (a.reverse.drop x) (b.reverse.drop y):=Ai ht (Az q)
  rw[this];exact h
 by_cases c1:x+t<a.length
 ·refine zax (Bj.mpr c1) ?_
  by_cases c2:y+t<b.length
  ·have c1':x+t<a.reverse.length:=by rw[ea];exact c1
   have c2':y+t<b.reverse.length:=by rw[eb];exact c2
   refine zax (Bj.mpr c2) ⟨by unfold sma at hx;unfold zr;exact⟨zj 23773909580435348416950349065449509320884045742632 rfl hx c1,ze 18709344649311234862868017 rfl⟩,_,ga c1',by unfold sma at hy;unfold zr;(clear ht hl out;lia),_,gb c2',?_⟩
   have key:t<lcp (a.reverse.drop x) (b.reverse.drop y)↔a.reverse[x+t]=b.reverse[y+t]:=by
    constructor
    ·intro q
     have e:=(iff (ntr q (yZ _ _).1) (ntr q (yZ _ _).2)).mp q
     have:=congrArg (fun l=>l[t]?) e
     simp only[List.getElem?_take,List.getElem?_drop] at this
     rw[if_pos (Cb t),if_pos (Cb t),Ay c1',Ay c2'] at this
     exact Option.some.inj this
    ·intro e
     refine Nat.lt_of_not_le fun q=>?_
     have e2:t=lcp (a.reverse.drop x) (b.reverse.drop y):=Ai ht q
     subst e2
     exact stop c1' c2' e
   by_cases c3:t<lcp (a.reverse.drop x) (b.reverse.drop y)
   ·refine zax (by rw[key.mp c3]) ?_
    exact⟨_,Nat.sub_lt_sub_left c3 (Cb t),t+1,c3,rfl,rfl⟩
   ·exact zcv (fun q=>c3 (key.mpr (by simpa using q))) (out c3)
  ·exact zcv (fun q=>c2 (Bj.mp q)) (out fun q=>c2 (Nat.add_lt_of_lt_sub' (Ba q hl.2)))
 ·exact zcv (fun q=>c1 (Bj.mp q)) (out fun q=>c1 (Nat.add_lt_of_lt_sub' (Ba q hl.1)))
theorem zxz {p:Int} (hm:m l2=some (.list (vl off f))) (ho:off≤1000) (ho2:2≤off) (hd:d<off) (h1:-(d:Int)≤p) (h2:p≤d)
  (h:Q .next (bsS s a b dl off l1 l2 ks ke ks2 ke2 d u18 u19 u20 u21 (some (.int ((off:Int)+p))) (some (.int (pick d p f))) (some (.int p)) u25 m)):
  wpS P (.ife (.bor [.cmp (.var 24) [.Eq] [.neg (.var 17)],.band [.cmp (.var 24) [.NotEq] [.var 17],.cmp (.idx (.var 10) (.bin .Sub (.var 22) (.lit (.int 1)))) [.Lt] [.idx (.var 10) (.bin .Add (.var 22) (.lit (.int 1)))]]]) [
   .assign [.var 23] (.idx (.var 10) (.bin .Add (.var 22) (.lit (.int 1))))] [
   .assign [.var 23] (.bin .Add (.idx (.var 10) (.bin .Sub (.var 22) (.lit (.int 1)))) (.lit (.int 1)))]) Q
   (bsS s a b dl off l1 l2 ks ke ks2 ke2 d u18 u19 u20 u21 (some (.int ((off:Int)+p))) u23 (some (.int p)) u25 m):=by
 refine zf fun K kt kf=>?_
 have yes: ∀(_:pick d p f=f (p+1)) (_:p+1<off),K true (bsS s a b dl off l1 l2 ks ke ks2 ke2 d u18 u19 u20 u21 (some (.int ((off:Int)+p))) u23 (some (.int p)) u25 m):=fun e q=>kt _ (by
  walk_at "D"
  rw[e] at h
  exact zd0 hm (k:=p+1) (by exact Ad (zbr 36938591248295896112 rfl) (zbr 36930054640025793584 rfl)) (by exact yR 154932870914035706428457513 rfl hd h1) q ho h)
 have no: ∀(_:pick d p f=f (p-1)+1) (_:-(off:Int)≤p-1),K false (bsS s a b dl off l1 l2 ks ke ks2 ke2 d u18 u19 u20 u21 (some (.int ((off:Int)+p))) u23 (some (.int p)) u25 m):=fun e q=>kf _ (by
  walk_at "D"
  rw[e] at h
  exact zd0 hm (k:=p-1) (by exact Ad (zbr 36943094847923267120 rfl) (zbr 36930055189785801776 rfl)) q (by exact yR 2986899998541986885337641 rfl hd h2) ho h)
 clear h kt kf
 walk_at "D"
 by_cases c1:p=-(d:Int)
 ·exact zy8 c1 (yes (if_pos (.inl c1)) (by exact yR 4552384568943560653611048 rfl ho2 c1))
 ·refine z6v c1 ?_
  by_cases c2:p=(d:Int)
  ·exact zgv c2 (no (if_neg (by rintro (q | q);exact c1 q;exact q.1 c2)) (by exact yR 19368822473543580366479400 rfl ho2 c2))
  ·refine zj3 c2 (zd0 hm (k:=p-1) (by exact Ad (zbr 36943094847923267120 rfl) (zbr 36930055189785801776 rfl)) (by exact yR 154951760379967185009312297 rfl hd h1) (by exact yR 2986899998541986885337641 rfl hd h2) ho (zd0 hm (k:=p+1) (by exact Ad (zbr 36938591248295896112 rfl) (zbr 36930054640025793584 rfl)) (by exact yR 154932870914035706428457513 rfl hd h1) (by lia) ho ?_))
   walk_at "D"
   by_cases c3:f (p-1)<f (p+1)
   ·rw[Af c3];exact yes (if_pos (.inr ⟨c2,c3⟩)) (by grind)
   ·rw[Ae c3];exact no (if_neg (by rintro (q | q);exact c1 q;exact c3 q.2)) (by exact yR 154951760379967185009312297 rfl hd h1)
theorem z27 {p:Int}{x y:Nat} (hm:m l1=some (.list (vl off g))) (ho:off≤1000) (hp:p=(x:Int)-y) (hx:x≤a.length) (hy:y≤b.length)
  (hN: ¬Hit a.reverse b.reverse off g p x→∀u19 u20 u21 u23,Q .next (bsS s a b dl off l1 l2 ks ke ks2 ke2 d u18 u19 u20 u21 u22 u23 (some (.int p)) (some (.int y)) m))
  (hR:Hit a.reverse b.reverse off g p x→∀loc,P.meth "diff_bisectSplit" [s,.str a,.str b,.int (g ((a.length:Int)-b.length-p)),.int (g ((a.length:Int)-b.length-p)-((a.length:Int)-b.length-p)),dl] (fun r m'=>Q (.ret r) ⟨loc,m'⟩) m)
  (hs: ∃A dd fs,s= .obj A∧m A=some (.inst P.cls dd)∧m dd=some (.dict fs)∧yD "diff_bisectSplit" fs=none):
  zk P zar Q (bsS s a b dl off l1 l2 ks ke ks2 ke2 d u18 u19 u20 u21 u22 (some (.int x)) (some (.int p)) (some (.int y)) m):=by
 unfold Hit at hN hR
 rw[Ak,Ak] at hN hR
 have hlx:(x:Int)≤a.length:=Int.ofNat_le.mpr hx
 have hly:(x:Int)-p≤b.length:=by rw[hp];exact zj 23321048326212665541160 rfl hy
 unfold zar
 refine ssx fun Q1 n1=>?_
 walk_at "D"
 refine n1 _ (ssn (zf fun K kt kf=>?_))
 walk_at "D"
 by_cases c1:0≤(off:Int)+((a.length:Int)-b.length)-p
 ·refine zax c1 ?_
  by_cases c2:(off:Int)+((a.length:Int)-b.length)-p<2 * off
  ·refine zax c2 (zd0 hm (k:=(a.length:Int)-b.length-p) (by exact Ad (zbb 22574563145042216640666117680 rfl) (zbb 22574562290475180147871904816 rfl)) (by exact zbb 1479446570283131820520734903697440 rfl c1) (by exact zbb 311722742333569298731940934626813473 rfl c2) ho ?_)
   walk_at "D"
   by_cases c3:g ((a.length:Int)-b.length-p)=-1
   ·rw[Af c3]
    exact kf _ (hN (fun q=>q.2.2.2.2.1 c3) _ _ _ _)
   ·rw[Ae c3]
    refine kt _ ?_
    unfold zeg
    refine ssx fun Q2 n2=>?_
    walk_at "D"
    refine zd0 hm (k:=(a.length:Int)-b.length-p) (by exact Ad (zbb 22574563145042216640666117680 rfl) (zbb 22574562290475180147871904816 rfl)) (by exact zbb 1479446570283131820520734903697440 rfl c1) (by exact zbb 311722742333569298731940934626813473 rfl c2) ho ?_
    refine n2 _ (ssx fun Q3 n3=>?_)
    walk_at "D"
    rw[show(off:Int)+g ((a.length:Int)-b.length-p)-((off:Int)+((a.length:Int)-b.length)-p)=g ((a.length:Int)-b.length-p)-((a.length:Int)-b.length-p) by exact Ad (z8f 189824644596227031962110929058375216 rfl) (z8f 188525302145662861360054192179779120 rfl)]
    refine n3 _ (ssx fun Q4 n4=>?_)
    walk_at "D"
    refine n4 _ (ssn (zf fun K' kt' kf'=>?_))
    walk_at "D"
    by_cases c4:(a.length:Int)-x≤g ((a.length:Int)-b.length-p)
    ·rw[Af c4]
     refine kt' _ ?_
     walk_at "D"
     exact⟨hs,hR ⟨hlx,hly,by grind,by grind,c3,by exact yR 23319024999993127794208 rfl c4⟩ _⟩
    ·rw[Ae c4]
     exact kf' _ (hN (fun q=>by have:=q.2.2.2.2.2;exact yR 23319024991234829255205 rfl c4 q.2.2.2.2.2) _ _ _ _)
  ·exact zcv c2 (kf _ (hN (fun q=>by have:=q.2.2.2.1;exact zbb 311722742333493713020426946054400036 rfl c2 q.2.2.2.1) _ _ _ _))
 ·exact zcv c1 (kf _ (hN (fun q=>by have:=q.2.2.1;exact zbb 1479446570283057992802354294400549 rfl c1 q.2.2.1) _ _ _ _))
theorem z2l {p:Int}{x1 y1:Nat} (hm2:m l1=some (.list (vl off g))) (ho:off≤1000) (hp:p=(x1:Int)-(y1:Int))
  (hN: ∀{i j:Nat},i=ks' a.reverse b.reverse x1 y1 ks2→j=ke' a.reverse x1 ke2→¬((!zgn a b)=true∧Hit a.reverse b.reverse off g p x1)→∀u19 u20 u21 u22 u23 u25,Q .next (bsS s a b dl off l1 l2 ks ke i j d u18 u19 u20 u21 u22 u23 (some (.int p)) u25 m))
  (hR:(!zgn a b)=true∧Hit a.reverse b.reverse off g p x1→∀loc,P.meth "diff_bisectSplit" [s,.str a,.str b,.int (g ((a.length:Int)-b.length-p)),.int (g ((a.length:Int)-b.length-p)-((a.length:Int)-b.length-p)),dl] (fun r m'=>Q (.ret r) ⟨loc,m'⟩) m)
  (hs: ∃A dd fs,s= .obj A∧m A=some (.inst P.cls dd)∧m dd=some (.dict fs)∧yD "diff_bisectSplit" fs=none):
  zk P [.ife (.cmp (.var 23) [.Gt] [.var 4]) [.aug 16 .Add (.lit (.int 2))] [.ife (.cmp (.var 25) [.Gt] [.var 5]) [.aug 15 .Add (.lit (.int 2))] [.ife (.not (.var 12)) zar []]]] Q
   (bsS s a b dl off l1 l2 ks ke ks2 ke2 d u18 u19 u20 u21 u22 (some (.int x1)) (some (.int p)) (some (.int y1)) m):=by
 have hh:Hit a.reverse b.reverse off g p x1→x1≤a.length∧y1≤b.length:=fun q=>by
  have h1:=q.1;have h2:=q.2.1
  rw[Ak] at h1 h2
  exact⟨ze 316964332903968 rfl h1,zbb 338129340399785015103679300130 rfl hp h2⟩
 refine ssn (zf fun K kt kf=>?_)
 walk_at "D"
 by_cases c1:a.length<x1
 ·rw[Af (Bj.mpr c1)]
  have r1:a.reverse.length<x1:=by rw[Ak];exact c1
  exact kt _ (hN (if_pos r1).symm (if_pos r1).symm (fun q=>absurd (hh q.2).1 (Nat.not_le_of_lt c1)) _ _ _ _ _ _)
 ·rw[Ae fun q=>c1 (Bj.mp q)]
  have r1: ¬a.reverse.length<x1:=by rw[Ak];exact c1
  refine kf _ (ssn (zf fun K' kt' kf'=>?_))
  walk_at "D"
  by_cases c2:b.length<y1
  ·rw[Af (Bj.mpr c2)]
   have r2:b.reverse.length<y1:=by rw[Ak];exact c2
   exact kt' _ (hN ((if_neg r1).trans (if_pos r2)).symm (if_neg r1).symm (fun q=>absurd (hh q.2).2 (Nat.not_le_of_lt c2)) _ _ _ _ _ _)
  ·rw[Ae fun q=>c2 (Bj.mp q)]
   have r2: ¬b.reverse.length<y1:=by rw[Ak];exact c2
   refine kf' _ (ssn (zf fun K2 kt2 kf2=>?_))
   walk_at "D"
   have hN:=hN ((if_neg r1).trans (if_neg r2)).symm (if_neg r1).symm
   suffices go: ∀t,zgn a b=t→K2 (!t) (bsS s a b dl off l1 l2 ks ke ks2 ke2 d u18 u19 u20 u21 u22 (some (.int x1)) (some (.int p)) (some (.int y1)) m) from go _ rfl
   intro t co
   cases t with
   | true=>exact kf2 _ (hN (fun q=>by rw[co] at q;cases q.1) _ _ _ _ _ _)
   | false=>exact kt2 _ (z27 hm2 ho hp (Az c1) (Az c2) (fun q u19 u20 u21 u23=>hN (fun z=>q z.2) _ _ _ _ _ _) (fun q loc=>hR ⟨by rw[co];rfl,q⟩ loc) hs)
theorem zxm {p:Int}{x y:Nat}{T:Tab} (hT:T.ks=ks2∧T.ke=ke2) (hm:m l2=some (.list (vl off T.f))) (hm2:m l1=some (.list (vl off g))) (hne:l1≠l2) (ho:off≤1000) (ho2:2≤off) (hd:d<off) (h1:-(d:Int)≤p) (h2:p≤d) (hx:sma a.length) (hy:sma b.length)
  (e1:pick d p T.f=x) (e2:p=(x:Int)-y)
  (hN: ¬((!zgn a b)=true∧Hit a.reverse b.reverse off g p (tx a.reverse b.reverse d p T.f))→∀m' u19 u20 u21 u22 u23 u25,m' l2=some (.list (vl off (step a.reverse b.reverse d p T).f))→m' l1=some (.list (vl off g))→zi1 l1 l2 m m'→
   Q .next (bsS s a b dl off l1 l2 ks ke (step a.reverse b.reverse d p T).ks (step a.reverse b.reverse d p T).ke d u18 u19 u20 u21 u22 u23 (some (.int p)) u25 m'))
  (hR:(!zgn a b)=true∧Hit a.reverse b.reverse off g p (tx a.reverse b.reverse d p T.f)→∀m' loc,zi1 l1 l2 m m'→P.meth "diff_bisectSplit" [s,.str a,.str b,.int (g ((a.length:Int)-b.length-p)),.int (g ((a.length:Int)-b.length-p)-((a.length:Int)-b.length-p)),dl] (fun r m'=>Q (.ret r) ⟨loc,m'⟩) m')
  (hs: ∀m',zi1 l1 l2 m m'→∃A dd fs,s= .obj A∧m' A=some (.inst P.cls dd)∧m' dd=some (.dict fs)∧yD "diff_bisectSplit" fs=none):
  zk P zan Q (bsS s a b dl off l1 l2 ks ke ks2 ke2 d u18 u19 u20 u21 u22 u23 (some (.int p)) u25 m):=by
 obtain⟨rfl,rfl⟩:=hT
 have ht:tx a.reverse b.reverse d p T.f=((x+lcp (a.reverse.drop x) (b.reverse.drop y):Nat):Int):=by
  unfold tx;rw[e1,show((x:Int)-p).toNat=y by exact Ai (zbb 180910915598726644797557241379 rfl e2 (Int.toNat_of_nonneg (yR 299579473643385324066 rfl e2))) (zbb 338129340399785016752946741794 rfl e2 (Int.toNat_of_nonneg (yR 299579473643385324066 rfl e2))),Int.toNat_natCast];exact Ad (ze 317033342366768 rfl) (ze 347511210421808 rfl)
 have ht2:tx a.reverse b.reverse d p T.f-p=((y+lcp (a.reverse.drop x) (b.reverse.drop y):Nat):Int):=by rw[ht];exact Ad (zbb 42271000652164888154993653283 rfl e2) (zbb 2804914249259621151326011938 rfl e2)
 unfold zan
 refine ssx fun Q1 n1=>?_
 walk_at "D"
 refine n1 _ (ssx fun Q2 n2=>zxz (f:=T.f) hm ho ho2 hd h1 h2 (n2 _ (ssx fun Q3 n3=>?_)))
 walk_at "D"
 rw[e1,show(x:Int)-p=(y:Int) by exact Ad (yR 23319024999993127794211 rfl e2) (yR 2396657840655343223330 rfl e2)]
 refine n3 _ (ssx fun Q4 n4=>z72 hx hy (n4 _ (ssx fun Q5 n5=>?_)))
 have hp:p=((x+lcp (a.reverse.drop x) (b.reverse.drop y):Nat):Int)-((y+lcp (a.reverse.drop x) (b.reverse.drop y):Nat):Int):=Ad (zbb 42271038142489761479399244322 rfl e2) (zbb 2806122564058985798748403235 rfl e2)
 have hf:up T.f p ((x+lcp (a.reverse.drop x) (b.reverse.drop y):Nat):Int)=(step a.reverse b.reverse d p T).f:=by rw[←ht];rfl
 have hS:(step a.reverse b.reverse d p T).ks=ks' a.reverse b.reverse (x+lcp (a.reverse.drop x) (b.reverse.drop y)) (y+lcp (a.reverse.drop x) (b.reverse.drop y)) T.ks∧(step a.reverse b.reverse d p T).ke=ke' a.reverse (x+lcp (a.reverse.drop x) (b.reverse.drop y)) T.ke:=by
  unfold step;rw[ht2,ht,Int.toNat_natCast,Int.toNat_natCast];exact⟨rfl,rfl⟩
 rw[ht] at hN hR
 clear ht ht2 e1
 generalize x+lcp (a.reverse.drop x) (b.reverse.drop y)=x1 at *
 generalize y+lcp (a.reverse.drop x) (b.reverse.drop y)=y1 at *
 walk_at "D"
 obtain⟨i,hi⟩: ∃i:Nat,(off:Int)+p=i:=⟨((off:Int)+p).toNat,by exact Ad (yR 23319024718555941762083 rfl (Int.toNat_of_nonneg (yR 2604975627321475961782825 rfl hd h1))) (yR 2543925548432564952610 rfl (Int.toNat_of_nonneg (yR 2604975627321475961782825 rfl hd h1)))⟩
 refine⟨l2,(off:Int)+p,_,i,rfl,rfl,by unfold zr;exact⟨yR 174826519772184709826221125410339 rfl hi,yR 44176191044181383554539181903589079603967165000 rfl ho hd h2⟩,hm,?_,n5 _ ?_⟩
 ·rw[zhq,hi];exact zlt (by exact zbb 23773695456255819188781533320774185 rfl hd h2 hi)
 rw[zzf hi (by exact zbb 23773695456255819188781533320774185 rfl hd h2 hi),hf]
 have mx:zi1 l1 l2 m (upd m l2 (.list (vl off (step a.reverse b.reverse d p T).f))):=fun a o _ h e=>by rw[upn _ _ h];exact e
 exact z2l (by rw[upn _ _ hne];exact hm2) ho hp (fun {i j} ei ej c u19 u20 u21 u22 u23 u25=>by
  obtain rfl:=ei.trans hS.1.symm
  obtain rfl:=ej.trans hS.2.symm
  exact hN c _ _ _ _ _ _ _ (ups _ _ _) (by rw[upn _ _ hne];exact hm2) mx) (fun c loc=>hR c _ loc mx) (hs _ mx)
end
section
variable {P:PC}{Q:Fl→St→Prop}{s dl:V}{a b:Tx}{off:Nat}{l1 l2:Addr}{d:Nat}{f g:Int→Int}
noncomputable def zg0 (P:PC) (s:V) (l1 l2:Addr) (m:Mem):Prop:= ∀m',zi1 l1 l2 m m'→∃A dd fs,s= .obj A∧m' A=some (.inst P.cls dd)∧m' dd=some (.dict fs)∧yD "diff_bisectSplit" fs=none
theorem zg0.ext {l1 l2:Addr}{m m':Mem} (h:zg0 P s l1 l2 m) (x:zi1 l1 l2 m m'):zg0 P s l1 l2 m':=fun m'' y=>h m'' (x.trans y)
theorem zps {f0:Int→Int}{ks0 ke0 ks2 ke2:Nat} (Pf:Pre a b d f0 ks0 ke0) (hD:2 * d≤zw a b+1) (hne:l1≠l2) (ho:off≤1000) (ho2:2≤off) (hd:d<off) (hx:sma a.length) (hy:sma b.length):
  ∀(n:Nat) (p:Int) (T:Tab) (u18 u19 u20 u21 u22 u23 u24 u25:Option V) (m:Mem),Sw a b d f0 ks0 ke0 p T.f T.ks T.ke→(0<n→p+2 * n≤(d:Int)-ke0+2)→
  m l1=some (.list (vl off T.f))→m l2=some (.list (vl off g))→zg0 P s l1 l2 m→
  (∀T' m' u18 u19 u20 u21 u22 u23 u24 u25,zfb a b off d (zgn a b) g n p T=(none,T')→m' l1=some (.list (vl off T'.f))→m' l2=some (.list (vl off g))→zi1 l1 l2 m m'→Q .next (bsS s a b dl off l1 l2 T'.ks T'.ke ks2 ke2 d u18 u19 u20 u21 u22 u23 u24 u25 m'))→
  (∀q T' m' loc,zfb a b off d (zgn a b) g n p T=(some q,T')→zi1 l1 l2 m m'→P.meth "diff_bisectSplit" [s,.str a,.str b,.int (T'.f q),.int (T'.f q-q),dl] (fun r m'=>Q (.ret r) ⟨loc,m'⟩) m')→
  zdz (zi6 P (.var 18)) (zk P zaq) (fun _=>True) Q (zdt p 2 n) (bsS s a b dl off l1 l2 T.ks T.ke ks2 ke2 d u18 u19 u20 u21 u22 u23 u24 u25 m)
 | 0,p,T,u18,u19,u20,u21,u22,u23,u24,u25,m,S,hn,hm,hm2,hs,hN,hR=>⟨trivial,hN T m _ _ _ _ _ _ _ _ rfl hm hm2 (.refl _ _ _)⟩
 | n+1,p,T,u18,u19,u20,u21,u22,u23,u24,u25,m,S,hn,hm,hm2,hs,hN,hR=>by
  have hp:p≤(d:Int)-ke0:=by have:=hn (Br n);exact zbb 46431308453328748041718341310616608 rfl this
  refine bc fun z9=>?_
  obtain⟨x,y,x1,y1,e1,e2,e3,e4,e5,e6,S'⟩:=zoz Pf hD S hp
  refine z9 ?_
  have hlo:=S.lo
  refine⟨trivial,?_⟩
  refine zyq (P:=P) (T:=T) ⟨rfl,rfl⟩ hm hm2 hne ho ho2 hd (by exact yR 18730681993477481504 rfl hlo) (by exact yR 540739860961100320 rfl hp) hx hy e1 e2 ?_ ?_ hs
  ·intro c m' v19 v20 v21 v22 v23 g1 g2 gx
   refine zps Pf hD hne ho ho2 hd hx hy n (p+2) (step a b d p T) _ _ _ _ _ _ _ _ m' S' (fun q=>by have:=hn (Br n);exact zbb 46070768152017644193002433491240467078215373856 rfl this) g1 g2 (hs.ext gx) ?_ ?_
   ·intro T' m'' w18 w19 w20 w21 w22 w23 w24 w25 e h1 h2 hx2
    exact hN T' m'' _ _ _ _ _ _ _ _ ((zf4 c).trans e) h1 h2 (gx.trans hx2)
   ·intro q T' m'' loc e hx2
    exact hR q T' m'' loc ((zf4 c).trans e) (gx.trans hx2)
  ·intro c m' loc gx
   have:=hR p (step a b d p T) m' loc (zi7 c) gx
   rw[ztb] at this
   exact this
theorem zp0 {g0:Int→Int}{ks ke ks0 ke0:Nat} (Pb:Pre a.reverse b.reverse d g0 ks0 ke0) (hD:2 * d≤zw a b+1) (hne:l1≠l2) (ho:off≤1000) (ho2:2≤off) (hd:d<off) (hx:sma a.length) (hy:sma b.length):
  ∀(n:Nat) (p:Int) (T:Tab) (u18 u19 u20 u21 u22 u23 u24 u25:Option V) (m:Mem),Sw a.reverse b.reverse d g0 ks0 ke0 p T.f T.ks T.ke→(0<n→p+2 * n≤(d:Int)-ke0+2)→
  m l2=some (.list (vl off T.f))→m l1=some (.list (vl off f))→zg0 P s l1 l2 m→
  (∀T' m' u18 u19 u20 u21 u22 u23 u24 u25,zfb a.reverse b.reverse off d (!zgn a b) f n p T=(none,T')→m' l2=some (.list (vl off T'.f))→m' l1=some (.list (vl off f))→zi1 l1 l2 m m'→Q .next (bsS s a b dl off l1 l2 ks ke T'.ks T'.ke d u18 u19 u20 u21 u22 u23 u24 u25 m'))→
  (∀q T' m' loc,zfb a.reverse b.reverse off d (!zgn a b) f n p T=(some q,T')→zi1 l1 l2 m m'→P.meth "diff_bisectSplit" [s,.str a,.str b,.int (f ((a.length:Int)-b.length-q)),.int (f ((a.length:Int)-b.length-q)-((a.length:Int)-b.length-q)),dl] (fun r m'=>Q (.ret r) ⟨loc,m'⟩) m')→
  zdz (zi6 P (.var 24)) (zk P zan) (fun _=>True) Q (zdt p 2 n) (bsS s a b dl off l1 l2 ks ke T.ks T.ke d u18 u19 u20 u21 u22 u23 u24 u25 m)
 | 0,p,T,u18,u19,u20,u21,u22,u23,u24,u25,m,S,hn,hm,hm2,hs,hN,hR=>⟨trivial,hN T m _ _ _ _ _ _ _ _ rfl hm hm2 (.refl _ _ _)⟩
 | n+1,p,T,u18,u19,u20,u21,u22,u23,u24,u25,m,S,hn,hm,hm2,hs,hN,hR=>by
  have hp:p≤(d:Int)-ke0:=by have:=hn (Br n);exact zbb 46431308453328748041718341310616608 rfl this
  refine bc fun z9=>?_
  obtain⟨x,y,x1,y1,e1,e2,e3,e4,e5,e6,S'⟩:=zoz Pb (by rw[zJ];exact hD) S hp
  refine z9 ?_
  have hlo:=S.lo
  refine⟨trivial,?_⟩
  refine zxm (P:=P) (T:=T) ⟨rfl,rfl⟩ hm hm2 hne ho ho2 hd (by exact yR 18730681993477481504 rfl hlo) (by exact yR 540739860961100320 rfl hp) hx hy e1 e2 ?_ ?_ hs
  ·intro c m' v19 v20 v21 v22 v23 v25 g1 g2 gx
   refine zp0 Pb hD hne ho ho2 hd hx hy n (p+2) (step a.reverse b.reverse d p T) _ _ _ _ _ _ _ _ m' S' (fun q=>by have:=hn (Br n);exact zbb 46070768152017644193002433491240467078215373856 rfl this) g1 g2 (hs.ext gx) ?_ ?_
   ·intro T' m'' w18 w19 w20 w21 w22 w23 w24 w25 e h1 h2 hx2
    exact hN T' m'' _ _ _ _ _ _ _ _ ((zf4 c).trans e) h1 h2 (gx.trans hx2)
   ·intro q T' m'' loc e hx2
    exact hR q T' m'' loc ((zf4 c).trans e) (gx.trans hx2)
  ·intro c m' loc gx
   exact hR p (step a.reverse b.reverse d p T) m' loc (zi7 c) gx
theorem zui {m:Mem}{a b c:Int}{K:List V→(Mem→Prop)→Prop} (ha:zr a) (hb:zr b) (hc:zr c) (h0:0<c) (h:K (zq6 a b c) fun _=>True):za5 m (.rng a b c) K:=⟨ha,hb,hc,h0,h⟩
theorem zkx {d:Nat}{f:Int→Int}{ks ke:Nat} (Pf:Pre a b d f ks ke) (hd:d≤zw a b):ks≤2 * d∧ke≤2 * d:=by have:=Pf.some hd;exact⟨zj 2796985304588352118842400 rfl this,zj 2798165896209069530145824 rfl this⟩
noncomputable abbrev bsU (s:V) (a b:Tx) (dl:V) (off:Nat) (l1 l2:Addr) (S T:Tab) (u17 u18 u19 u20 u21 u22 u23 u24 u25:Option V) (m:Mem):St:=
 ⟨[some s,some (.str a),some (.str b),some dl,some (.int a.length),some (.int b.length),some (.int off),some (.int off),some (.int (2 * off)),some (.obj l1),some (.obj l2),some (.int ((a.length:Int)-b.length)),some (.bool (zgn a b)),
   some (.int S.ks),some (.int S.ke),some (.int T.ks),some (.int T.ke),u17,u18,u19,u20,u21,u22,u23,u24,u25],m⟩
theorem rg_t {d off k e:Nat} (ho:off≤1000) (hd:d<off) (h1:k≤2 * d) (h2:e≤2 * d):zr (-(d:Int)+k)∧zr ((d:Int)+1-e):=by
 unfold zr
 refine⟨⟨?_,?_⟩,⟨?_,?_⟩⟩
 ·exact zj 97373785697159220610114240639661506560552 rfl ho hd
 ·exact zj 45236419629243138250894050118507385950939807482408 rfl ho hd h1
 ·exact zj 13381565584935289836353038646151845244529917999186472 rfl ho hd h2
 ·exact zj 5392601445823089849605636492678037824864808 rfl ho hd
theorem zme (hD2:2≤zw a b) (hne:l1≠l2) (ho:off≤1000) (ho2:2≤off) (hx:sma a.length) (hy:sma b.length):
  ∀(n d:Nat) (S T:Tab) (u17 u18 u19 u20 u21 u22 u23 u24 u25:Option V) (m:Mem),d+n=off→Pre a b d S.f S.ks S.ke→Pre a.reverse b.reverse d T.f T.ks T.ke→2 * d≤zw a b+1→
  m l1=some (.list (vl off S.f))→m l2=some (.list (vl off T.f))→zg0 P s l1 l2 m→
  (∀S' T' m' u17 u18 u19 u20 u21 u22 u23 u24 u25,zwi a b off n d S T=none→zi1 l1 l2 m m'→Q .next (bsU s a b dl off l1 l2 S' T' u17 u18 u19 u20 u21 u22 u23 u24 u25 m'))→
  (∀u v m' (K:V→Mem→Prop),zwi a b off n d S T=some (u,v)→zi1 l1 l2 m m'→(∀r m',(∀loc,Q (.ret r) ⟨loc,m'⟩)→K r m')→P.meth "diff_bisectSplit" [s,.str a,.str b,.int u,.int v,dl] K m')→
  zdz (zi6 P (.var 17)) (zk P zb5) (fun _=>True) Q (zdt d 1 n) (bsU s a b dl off l1 l2 S T u17 u18 u19 u20 u21 u22 u23 u24 u25 m)
 | 0,d,S,T,u17,u18,u19,u20,u21,u22,u23,u24,u25,m,hn,Pf,Pb,hD,hm,hm2,hs,hN,hR=>⟨trivial,hN S T m _ _ _ _ _ _ _ _ _ rfl (.refl _ _ _)⟩
 | n+1,d,S,T,u17,u18,u19,u20,u21,u22,u23,u24,u25,m,hn,Pf,Pb,hD,hm,hm2,hs,hN,hR=>by
  have hd:d<off:=zj 9804838938652709930 rfl hn
  have hdD:d≤zw a b:=ze 649178122658326568 rfl hD
  refine⟨trivial,?_⟩
  unfold zb5
  show zk P [_,_] _ (bsS s a b dl off l1 l2 S.ks S.ke T.ks T.ke d u18 u19 u20 u21 u22 u23 u24 u25 m)
  refine za fun Q1 n1 r1=>?_
  walk_at "D"
  obtain⟨b1,b2⟩:=zkx Pf hdD
  obtain⟨b3,b4⟩:=zkx Pb (by rw[zJ];exact hdD)
  have t2:zr 2:=by (first|exact zag (by lia)|(unfold zr;lia)|(unfold zr;grind))
  have rg: ∀(k e:Nat),k≤2 * d→e≤2 * d→zr (-(d:Int)+k)∧zr ((d:Int)+1-e):=fun k e=>rg_t ho hd
  have rl: ∀(k e:Nat),zq6 (-(d:Int)+k) ((d:Int)+1-e) 2=zdt (-(d:Int)+k) 2 (zsl (-(d:Int)+k) ((d:Int)-e)):=fun k e=>by
   unfold zq6 zsl;rw[show(d:Int)+1-e=(d:Int)-e+1 by exact Ad (ze 2383957777964239136304 rfl) (ze 2916895712620386432048 rfl)]
  have hF:=znx (off:=off) Pf Pb hD hD2 hd
  have en: ∀{x:Tx} {y:Tx} {F:Tab},Pre x y d F.f F.ks F.ke→d≤zw x y→-(d:Int)+F.ks+2 * (zsl (-(d:Int)+F.ks) ((d:Int)-F.ke):Nat)≤(d:Int)-F.ke+2:=fun {x y F} PP h=>by
   exact Int.le_of_eq (zrc (PP.some h) (zzo PP.ev.1 PP.ev.2))
  refine⟨(rg _ _ b1 b2).1,(rg _ _ b1 b2).2,t2,by decide,zui (rg _ _ b1 b2).1 (rg _ _ b1 b2).2 t2 (by decide) ?_⟩
  rw[rl]
  refine zps (f0:=S.f) Pf hD hne ho ho2 hd hx hy _ _ S u18 u19 u20 u21 u22 u23 u24 u25 m (Sw.start Pf) (fun _=>en Pf hdD) hm hm2 hs ?_ ?_
  ·intro S' m1 v18 v19 v20 v21 v22 v23 v24 v25 e g1 g2 gx
   have e:ze6 a b off d S T=(none,S'):=e
   rw[e] at hF
   obtain⟨q1,q2,q3,q4⟩:=hF
   have hB:=zm6 (off:=off) q2 q3 Pb q4 hD2 hd
   refine n1 _ (za fun Q2 n2 r2=>?_)
   walk_at "D"
   refine⟨(rg _ _ b3 b4).1,(rg _ _ b3 b4).2,t2,by decide,zui (rg _ _ b3 b4).1 (rg _ _ b3 b4).2 t2 (by decide) ?_⟩
   rw[rl]
   refine zp0 (g0:=T.f) Pb hD hne ho ho2 hd hx hy _ _ T v18 v19 v20 v21 v22 v23 v24 v25 m1 (Sw.start Pb) (fun _=>en Pb (by rw[zJ];exact hdD)) g2 g1 (hs.ext gx) ?_ ?_
   ·intro T' m2 w18 w19 w20 w21 w22 w23 w24 w25 e' h2 h1 hx2
    have e':zf0 a b off d S' T=(none,T'):=e'
    rw[e'] at hB
    have eG:zwi a b off (n+1) d S T=zwi a b off n (d+1) S' T':=by
     show(match ze6 a b off d S T with | (some p,s')=>_ | (none,s')=>_)=_
     rw[e]
     show(match zf0 a b off d S' T with | (some p,s')=>_ | (none,s')=>_)=_
     rw[e']
    refine n2 _ (zc ?_)
    have:=zme hD2 hne ho ho2 hx hy n (d+1) S' T' (some (.int d)) w18 w19 w20 w21 w22 w23 w24 w25 m2 (by exact Ai (zj 10318666282764277363250218 rfl hn) (zj 10313990821270913238565419 rfl hn)) q1 hB.1 hB.2 h1 h2 (hs.ext (gx.trans hx2))
     (fun S2 T2 m' a17 a18 a19 a20 a21 a22 a23 a24 a25 z zx=>hN S2 T2 m' _ _ _ _ _ _ _ _ _ (eG.trans z) ((gx.trans hx2).trans zx))
     (fun u v m' K z zx=>hR u v m' K (eG.trans z) ((gx.trans hx2).trans zx))
    exact this
   ·intro q T' m2 loc e' hx2
    have e':zf0 a b off d S' T=(some q,T'):=e'
    refine hR _ _ m2 _ ?_ (gx.trans hx2) fun r m' h=>r2 _ _ (h loc)
    show(match ze6 a b off d S T with | (some p,s')=>_ | (none,s')=>_)=_
    rw[e]
    show(match zf0 a b off d S' T with | (some p,s')=>_ | (none,s')=>_)=_
    rw[e']
  ·intro q S' m1 loc e gx
   have e:ze6 a b off d S T=(some q,S'):=e
   refine hR _ _ m1 _ ?_ gx fun r m' h=>r1 _ _ (h loc)
   show(match ze6 a b off d S T with | (some p,s')=>_ | (none,s')=>_)=_
   rw[e]
end
structure Tz where
 z:Int
 x:Option (Addr×Pos×Str)
noncomputable def TZ (P:PC) (z:Tz) (m:Mem) (t:Addr):Prop:= ∃dd fs,m t=some (.inst P.cls dd)∧m dd=some (.dict fs)∧(∀n,zfe n=true→yD n fs=none)∧yD "Diff_Timeout" fs=some (.int z.z)∧∀a p q,z.x=some (a,p,q)→m a=some (.tab p q)
theorem TZ.tool {P:PC}{z:Tz}{m:Mem}{t:Addr} (h:TZ P z m t):zes P m t:=let ⟨dd,fs,a,b,c,_⟩:=h;⟨dd,fs,a,b,c⟩
theorem TZ.gr {P:PC}{z:Tz}{m m':Mem}{t:Addr} (h:TZ P z m t) (g:Gr m m'):TZ P z m' t:=let ⟨dd,fs,a,b,c,d,e⟩:=h;⟨dd,fs,g _ _ a,g _ _ b,c,d,fun a p q h=>g _ _ (e a p q h)⟩
theorem TZ.ext {P:PC}{z:Tz}{m m':Mem}{t d:Addr} (h:TZ P z m t) (hd: ∃l,m d=some (.list l)) (x:Ext d m m'):TZ P z m' t:=by
 obtain⟨dd,fs,h1,h2,h3,h4,h5⟩:=h
 obtain⟨l,hl⟩:=hd
 refine⟨dd,fs,x _ _ (fun q=>?_) h1,x _ _ (fun q=>?_) h2,h3,h4,fun a p q e=>x _ _ (fun z=>?_) (h5 a p q e)⟩
 ·rw[q,hl] at h1;cases h1
 ·rw[q,hl] at h2;cases h2
 ·have:=h5 a p q e
  rw[z,hl] at this;cases this
theorem zbz {P:PC}{z:Tz}{m:Mem}{t:Addr}{n:String}{v:V}{K:V→Prop} (h:TZ P z m t) (hf:zfe n=true) (hc:P.cc n=some v) (q:K v):zhv P m (.obj t) n K:=zd7 h.tool hf hc q
theorem zd3 {P:PC}{z:Tz}{m:Mem}{t:Addr}{n:String} (h:TZ P z m t) (hf:zfe n=true): ∃a d fs,V.obj t= .obj a∧m a=some (.inst P.cls d)∧m d=some (.dict fs)∧yD n fs=none:=zln h.tool hf
theorem vl0 (off:Nat) (h:2≤off):(List.replicate (2 * off) (V.int (-1))).set (off+1) (.int 0)=vl off tab0.f:=by
 apply List.ext_getElem?
 intro j
 by_cases hj:j<2 * off
 ·rw[zwx hj]
  by_cases e:off+1=j
  ·subst e
   rw[List.getElem?_set_self (by rw[List.length_replicate];exact hj),show(((off+1:Nat):Int)-off)=1 by exact Ad (zm 35249065391664 rfl) (zm 8280742760496 rfl)];rfl
  ·rw[List.getElem?_set_ne e,List.getElem?_replicate,if_pos hj]
   show _=some (V.int (if (j:Int)-off=1 then 0 else -1))
   rw[if_neg (by grind)]
 ·rw[List.getElem?_eq_none (by rw[List.length_set,List.length_replicate];exact Az ‹_›),List.getElem?_eq_none (by rw[zhq];exact ze 81146217358239788 rfl hj)]
theorem zyu {α:Type} (xs:List α):zcd xs none none=xs:=by unfold zcd zfj zh5;exact Bd (by simp)
theorem zrk (n:Nat):zq6 0 n 1=zdt (0:Nat) 1 n:=by
 unfold zq6 Builtin.Range.rangeSize
 rw[if_pos (by decide)]
 have:(if (0:Int)<(n:Int) then((n:Int)-0-1)/1+1 else 0).toNat=n:=by split<;>grind
 rw[this];rfl
theorem z56 (x:Int):(!decide (x%2=0))=decide (x%2≠0):=by rw[decide_not]
section
variable {P:PC}{Q:V→Mem→Prop}{t:Addr}{dl:V}{a b:Tx}{m:Mem}{z:Tz}
set_option maxHeartbeats 2000000 in
theorem zxf (cD:P.cc "DIFF_DELETE"=some (.int (-1))) (cI:P.cc "DIFF_INSERT"=some (.int 1)) (hT:TZ P z m t) (hD2:2≤zw a b) (hab:a.length+b.length≤1000) (ho2:2≤zeh a b)
  (hN:bis a b=none→∀m' r,Gr m m'→m r=none→m' r=some (.list (rv [(-1,a),(1,b)]))→Q (.obj r) m')
  (hR: ∀u v m' (K:V→Mem→Prop),bis a b=some (u,v)→Gr m m'→(∀r m',Q r m'→K r m')→P.meth "diff_bisectSplit" [.obj t,.str a,.str b,.int u,.int v,dl] K m'):
  zk P yT (fun fl σ'=>Q (retV fl) σ'.mem) ⟨[.obj t,.str a,.str b,dl].map some++List.replicate 22 none,m⟩:=by
 have hsa:sma a.length:=ntr (ntr (Bc _ _) hab) (by decide)
 have hsb:sma b.length:=ntr (ntr (Nat.le_add_left _ _) hab) (by decide)
 have ho:zeh a b≤1000:=by unfold zeh;exact zj 169310764252603737002181579381081117736 rfl hab (Nat.div_mul_le_self _ _)
 have h2o:2 * zeh a b≤1000000:=ntr (Nat.mul_le_mul_left 2 ho) (by decide)
 show zk P _ _ ⟨[some (.obj t),some (.str a),some (.str b),some dl,none,none,none,none,none,none,none,none,none,none,none,none,none,none,none,none,none,none,none,none,none,none],m⟩
 unfold yT
 refine za fun Q1 n1 r1=>?_
 walk_at "D"
 refine⟨hsa,n1 _ (za fun Q2 n2 r2=>?_)⟩
 walk_at "D"
 refine⟨hsb,n2 _ (za fun Q3 n3 r3=>?_)⟩
 walk_at "D"
 refine⟨by decide,by (first|exact zag (by lia)|(unfold zr;lia)|(unfold zr;grind)),n3 _ (za fun Q4 n4 r4=>?_)⟩
 rw[show((a.length:Int)+b.length+1)/2=(zeh a b:Int) by unfold zeh;rfl]
 walk_at "D"
 refine n4 _ (za fun Q5 n5 r5=>?_)
 walk_at "D"
 refine⟨by (first|exact zag (by lia)|(unfold zr;lia)|(unfold zr;grind)),n5 _ (za fun Q6 n6 r6=>?_)⟩
 walk_at "D"
 intro l0 hl0
 refine⟨_,ups _ _ _,by exact zag (zm 151810819217875668406633032 rfl ho),h2o,fun l1 hl1=>n6 _ (za fun Q7 n7 r7=>?_)⟩
 walk_at "D"
 rw[show((2:Int) * (zeh a b:Int)).toNat=2 * zeh a b by rfl]
 refine⟨l1,_,_,zeh a b+1,rfl,rfl,by exact zag (zm 636740726353535913763634271037480 rfl h2o),ups _ _ _,?_,n7 _ (za fun Q8 n8 r8=>?_)⟩
 ·rw[List.length_replicate,show((zeh a b:Int)+1)=((zeh a b+1:Nat):Int) from rfl];exact zlt (by exact zm 83351820906340392 rfl ho2)
 rw[vl0 _ ho2]
 have g1:Gr m (upd (upd (upd m l0 (.list [.int (-1)])) l1 (.list (List.replicate (2 * zeh a b) (.int (-1))))) l1 (.list (vl (zeh a b) tab0.f))):=by
  rw[zu0];exact(Gr.new hl0 _).set (by
   have h1:(upd m l0 (.list [.int (-1)])) l1=none:=hl1
   by_cases e:l1=l0
   ·subst e;exact hl0
   ·rwa [upn _ _ e] at h1) _
 have h1:(upd (upd (upd m l0 (.list [.int (-1)])) l1 (.list (List.replicate (2 * zeh a b) (.int (-1))))) l1 (.list (vl (zeh a b) tab0.f))) l1=some (.list (vl (zeh a b) tab0.f)):=ups _ _ _
 have hl1':m l1=none:=by
  cases z:m l1 with
  | none=>rfl
  | some o=>
   have:=(Gr.new hl0 (.list [.int (-1)])) l1 o z
   rw[show upd m l0 (.list [.int (-1)]) l1=none from hl1] at this;cases this
 generalize upd (upd (upd m l0 (.list [.int (-1)])) l1 (.list (List.replicate (2 * zeh a b) (.int (-1))))) l1 (.list (vl (zeh a b) tab0.f))=m1 at g1 h1 ⊢
 walk_at "D"
 refine⟨_,.inl h1,by rw[zhq];exact h2o,fun l2 hl2=>n8 _ ?_⟩
 rw[show z49 (vl (zeh a b) tab0.f) none none none=vl (zeh a b) tab0.f from zyu _]
 have hne:l1≠l2:=fun e=>by subst e;rw[show m1 l1=none from hl2] at h1;exact(Am _ h1.symm).elim
 have h2:upd m1 l2 (.list (vl (zeh a b) tab0.f)) l2=some (.list (vl (zeh a b) tab0.f)):=ups _ _ _
 have h1':upd m1 l2 (.list (vl (zeh a b) tab0.f)) l1=some (.list (vl (zeh a b) tab0.f)):=by rw[upn _ _ hne];exact h1
 have g2:Gr m (upd m1 l2 (.list (vl (zeh a b) tab0.f))):=g1.trans (Gr.new hl2 _)
 have hl2':m l2=none:=by
  cases z:m l2 with
  | none=>rfl
  | some o=>have:=g1 l2 o z;rw[show m1 l2=none from hl2] at this;cases this
 generalize upd m1 l2 (.list (vl (zeh a b) tab0.f))=m2 at h2 h1' g2 ⊢
 have gx: ∀m',zi1 l1 l2 m2 m'→Gr m m':=fun m' x c o e=>x c o (fun q=>by subst q;rw[hl1'] at e;exact(Am _ e.symm).elim) (fun q=>by subst q;rw[hl2'] at e;exact(Am _ e.symm).elim) (g2 c o e)
 refine za fun Q9 n9 r9=>?_
 walk_at "D"
 refine n9 _ (za fun Q10 n10 r10=>?_)
 walk_at "D"
 refine⟨by decide,?_⟩
 rw[z56]
 refine n10 _ (za fun Q11 n11 r11=>?_)
 walk_at "D"
 refine n11 _ (za fun Q12 n12 r12=>?_)
 walk_at "D"
 refine n12 _ (za fun Q13 n13 r13=>?_)
 walk_at "D"
 refine n13 _ (za fun Q14 n14 r14=>?_)
 walk_at "D"
 refine n14 _ (za fun Q15 n15 r15=>?_)
 walk_at "D"
 refine⟨by exact zag (zm 621817115516559372452351780904 rfl h2o),by (first|exact zag (by lia)|(unfold zr;lia)|(unfold zr;grind)),by (first|exact zag (by lia)|(unfold zr;lia)|(unfold zr;grind)),by (first|exact zag (by lia)|(unfold zr;lia)|(unfold zr;grind)),by decide,?_⟩
 rw[zrk]
 refine zme hD2 hne ho ho2 hsa hsb (zeh a b) 0 tab0 tab0 none none none none none none none none none m2 (Nat.zero_add _) (z7d a b) (z7d _ _) (Bq _) h1' h2 ?_ ?_ ?_
 ·exact fun m' x=>zd3 (hT.gr (gx m' x)) rfl
 ·intro S' T' m' u17 u18 u19 u20 u21 u22 u23 u24 u25 e x
  refine n15 _ (ssn ?_)
  walk_at "D"
  have hT':=hT.gr (gx m' x)
  refine zbz hT' rfl cD (zbz hT' rfl cI fun r hr=>hN e _ r ((gx m' x).trans (Gr.new hr _)) ((gx m' x).fresh hr) (ups _ _ _))
 ·exact fun u v m' K e x h=>hR u v m' K e (gx m' x) fun r m' q=>h r m' fun loc=>r15 _ _ q
end
noncomputable def zbq:List Str:=["self","text1","text2","checklines","deadline"]
noncomputable def zam:List Str:=["commonlength","commonprefix","commonsuffix","diffs"]
noncomputable def zd2:List (Str×NameKind):=[]
noncomputable def zd5:List Str:=[]
noncomputable def zgm:List Sm:=[
  .ife (.var 1) [
   .ret (.list [.tup [.attr (.var 0) "DIFF_EQUAL",.var 1]])] [],
  .ret (.list [])]
noncomputable def zft:List Sm:=[
  .assign [.var 7] (.slc (.var 1) (.neg (.var 5)) (.lit .none) (.lit .none)),
  .assign [.var 1] (.slc (.var 1) (.lit .none) (.neg (.var 5)) (.lit .none)),
  .assign [.var 2] (.slc (.var 2) (.lit .none) (.neg (.var 5)) (.lit .none))]
noncomputable def zai:List Sm:=[
  .ife (.bor [.cmp (.var 1) [.Eq] [.lit .none],.cmp (.var 2) [.Eq] [.lit .none]]) [
   .junk] [],
  .ife (.cmp (.var 1) [.Eq] [.var 2]) zgm [],
  .assign [.var 5] (.imeth (.var 0) "diff_commonPrefix" [.var 1,.var 2]),
  .assign [.var 6] (.slc (.var 1) (.lit .none) (.var 5) (.lit .none)),
  .assign [.var 1] (.slc (.var 1) (.var 5) (.lit .none) (.lit .none)),
  .assign [.var 2] (.slc (.var 2) (.var 5) (.lit .none) (.lit .none)),
  .assign [.var 5] (.imeth (.var 0) "diff_commonSuffix" [.var 1,.var 2]),
  .ife (.cmp (.var 5) [.Eq] [.lit (.int 0)]) [
   .assign [.var 7] (.lit (.str []))] zft,
  .assign [.var 8] (.imeth (.var 0) "diff_compute" [.var 1,.var 2,.var 3,.var 4]),
  .ife (.var 6) [
   .assign [.slc (.var 8) (.lit .none) (.lit (.int 0))] (.list [.tup [.attr (.var 0) "DIFF_EQUAL",.var 6]])] [],
  .ife (.var 7) [
   .expr (.me (.var 8) .append [.tup [.attr (.var 0) "DIFF_EQUAL",.var 7]])] [],
  .expr (.imeth (.var 0) "diff_cleanupMerge" [.var 8]),
  .ret (.var 8)]
noncomputable def zad:List Str:=["self","text1","text2","checklines","deadline"]
noncomputable def yC:List Str:=["longtext","shorttext","i","diffs","hm","text1_a","text1_b","text2_a","text2_b","mid_common","diffs_a","diffs_b"]
noncomputable def zb7:List (Str×NameKind):=[("len",.globalImplicit)]
noncomputable def zb1:List Str:=[]
noncomputable def zdy:List Sm:=[
  .assign [.idx (.var 8) (.lit (.int 0))] (.tup [.attr (.var 0) "DIFF_DELETE",.idx (.idx (.var 8) (.lit (.int 0))) (.lit (.int 1))]),
  .assign [.idx (.var 8) (.lit (.int 2))] (.tup [.attr (.var 0) "DIFF_DELETE",.idx (.idx (.var 8) (.lit (.int 2))) (.lit (.int 1))])]
noncomputable def zbl:List Sm:=[
  .assign [.var 8] (.list [.tup [.attr (.var 0) "DIFF_INSERT",.slc (.var 5) (.lit .none) (.var 7) (.lit .none)],.tup [.attr (.var 0) "DIFF_EQUAL",.var 6],.tup [.attr (.var 0) "DIFF_INSERT",.slc (.var 5) (.bin .Add (.var 7) (.bi .len [.var 6])) (.lit .none) (.lit .none)]]),
  .ife (.cmp (.bi .len [.var 1]) [.Gt] [.bi .len [.var 2]]) zdy [],
  .ret (.var 8)]
noncomputable def zae:List Sm:=[
  .assign [.tup [10,11,12,13,14]] (.var 9),
  .assign [.var 15] (.imeth (.var 0) "diff_main" [.var 10,.var 12,.var 3,.var 4]),
  .assign [.var 16] (.imeth (.var 0) "diff_main" [.var 11,.var 13,.var 3,.var 4]),
  .ret (.bin .Add (.bin .Add (.var 15) (.list [.tup [.attr (.var 0) "DIFF_EQUAL",.var 14]])) (.var 16))]
noncomputable def yB:List Sm:=[
  .ife (.not (.var 1)) [
   .ret (.list [.tup [.attr (.var 0) "DIFF_INSERT",.var 2]])] [],
  .ife (.not (.var 2)) [
   .ret (.list [.tup [.attr (.var 0) "DIFF_DELETE",.var 1]])] [],
  .ife (.cmp (.bi .len [.var 1]) [.Gt] [.bi .len [.var 2]]) [
   .assign [.tup [5,6]] (.tup [.var 1,.var 2])] [
   .assign [.tup [6,5]] (.tup [.var 1,.var 2])],
  .assign [.var 7] (.me (.var 5) .find [.var 6]),
  .ife (.cmp (.var 7) [.NotEq] [.neg (.lit (.int 1))]) zbl [],
  .ife (.cmp (.bi .len [.var 6]) [.Eq] [.lit (.int 1)]) [
   .ret (.list [.tup [.attr (.var 0) "DIFF_DELETE",.var 1],.tup [.attr (.var 0) "DIFF_INSERT",.var 2]])] [],
  .assign [.var 9] (.imeth (.var 0) "diff_halfMatch" [.var 1,.var 2]),
  .ife (.var 9) zae [],
  .ife (.band [.var 3,.cmp (.bi .len [.var 1]) [.Gt] [.lit (.int 100)],.cmp (.bi .len [.var 2]) [.Gt] [.lit (.int 100)]]) [
   .junk] [],
  .ret (.imeth (.var 0) "diff_bisect" [.var 1,.var 2,.var 4])]
noncomputable def zL:List Str:=["self","text1","text2","x","y","deadline"]
noncomputable def z5:List Str:=["text1a","text2a","text1b","text2b","diffs","diffsb"]
noncomputable def zas:List (Str×NameKind):=[]
noncomputable def zav:List Str:=[]
noncomputable def z7:List Sm:=[
  .assign [.var 6] (.slc (.var 1) (.lit .none) (.var 3) (.lit .none)),
  .assign [.var 7] (.slc (.var 2) (.lit .none) (.var 4) (.lit .none)),
  .assign [.var 8] (.slc (.var 1) (.var 3) (.lit .none) (.lit .none)),
  .assign [.var 9] (.slc (.var 2) (.var 4) (.lit .none) (.lit .none)),
  .assign [.var 10] (.imeth (.var 0) "diff_main" [.var 6,.var 7,.lit (.bool false),.var 5]),
  .assign [.var 11] (.imeth (.var 0) "diff_main" [.var 8,.var 9,.lit (.bool false),.var 5]),
  .ret (.bin .Add (.var 10) (.var 11))]
theorem zqm (A B:Row):rv A++rv B=rv (A++B):=by unfold rv;rw[List.map_append]
section
variable {P:PC}{Q:V→Mem→Prop}{t:Addr}{dl:V}{a b:Tx}{m:Mem}{H:Tx→Tx→Option HM→Prop}{z:Tz}
noncomputable def zmn (P:PC) (z:Tz) (H:Tx→Tx→Option HM→Prop) (t:Addr) (dl:V) (n:Nat):Prop:= ∀(a b:Tx) (m:Mem) (Q:V→Mem→Prop),a.length+b.length≤n→TZ P z m t→
 (∀m' r L,Gr m m'→m r=none→m' r=some (.list (rv L))→MainR H a b L→Q (.obj r) m')→P.meth "diff_main" [.obj t,.str a,.str b,.bool false,dl] Q m
theorem zqi {H:Tx→Tx→Option HM→Prop}{a b:Tx}{L:Row}{n:Nat} (R:MainR H a b L) (h:a.length+b.length≤n) (hn:n≤40):sma (rv L).length:=by
 have G:=ziz R
 have p:=llp L
 have q:=zja G.n G.k
 rw[G.m,G.p] at q
 rw[zl];unfold sma;exact zd8 367056038229086583797484967289133806977939000529992 rfl h hn p q
theorem z1o {x y n:Nat} (hM:zmn P z H t dl n) (hT:TZ P z m t) (hm:Meet a b x y) (hn:a.length+b.length≤n+1) (hs:n≤40)
  (h: ∀m' r L1 L2,Gr m m'→m r=none→m' r=some (.list (rv (L1++L2)))→MainR H (a.take x) (b.take y) L1→MainR H (a.drop x) (b.drop y) L2→Q (.obj r) m'):
  zk P z7 (fun fl σ'=>Q (retV fl) σ'.mem) ⟨[.obj t,.str a,.str b,.int x,.int y,dl].map some++List.replicate 6 none,m⟩:=by
 have hx:=hm.hx
 have hy:=hm.hy
 have hlo:=hm.lo
 have hhi:=hm.hi
 have k1:(a.take x).length+(b.take y).length≤n:=by rw[List.length_take_of_le hx,List.length_take_of_le hy];exact Nat.le_of_lt_succ (Ba hhi hn)
 have k2:(a.drop x).length+(b.drop y).length≤n:=by rw[Ap,Ap];exact zmi 6504624582213502259981149080434799741896556192207912 rfl hn hlo (Ab (ze 4952567644712 rfl hx)) (Ab (ze 4952567644712 rfl hy))
 have hsa:sma a.length:=ntr (ntr (Bc _ _) hn) (Be (ntr hs (by decide)))
 have hsb:sma b.length:=ntr (ntr (Nat.le_add_left _ _) hn) (Be (ntr hs (by decide)))
 show zk P _ _ ⟨[some (.obj t),some (.str a),some (.str b),some (.int x),some (.int y),some dl,none,none,none,none,none,none],m⟩
 unfold z7
 refine za fun Q1 n1 r1=>?_
 walk_at "D"
 refine⟨hsa,n1 _ (za fun Q2 n2 r2=>?_)⟩
 walk_at "D"
 refine⟨hsb,n2 _ (za fun Q3 n3 r3=>?_)⟩
 walk_at "D"
 refine⟨hsa,n3 _ (za fun Q4 n4 r4=>?_)⟩
 walk_at "D"
 refine⟨hsb,n4 _ (za fun Q5 n5 r5=>?_)⟩
 walk_at "D"
 rw[zb4 a hx,zb4 b hy,zQ a hx,zQ b hy]
 refine⟨zd3 hT rfl,hM _ _ _ _ k1 hT fun m1 l1 L1 g1 _ h1 R1=>n5 _ (za fun Q6 n6 r6=>?_)⟩
 walk_at "D"
 refine⟨zd3 (hT.gr g1) rfl,hM _ _ _ _ k2 (hT.gr g1) fun m2 l2 L2 g2 _ h2 R2=>n6 _ (ssn ?_)⟩
 walk_at "D"
 refine⟨_,_,g2 _ _ h1,h2,zqi R1 k1 hs,zqi R2 k2 hs,fun r hr=>h _ r L1 L2 ((g1.trans g2).trans (Gr.new hr _)) ((g1.trans g2).fresh hr) ?_ R1 R2⟩
 rw[zqm];exact ups _ _ _
end
noncomputable def hmV:Option HM→V
 | none=> .none
 | some h=> .tup [.str h.a1,.str h.a2,.str h.b1,.str h.b2,.str h.c]
theorem zj2 {l s:Tx}{i:Nat} (h:Occ l s i):l=l.take i++s++l.drop (i+s.length):=by
 obtain⟨h1,h2⟩:=h
 have e:l.drop i=s++l.drop (i+s.length):=by
  rw[←List.drop_drop]
  have:=Bb s.length (l.drop i)
  rw[h2] at this;exact this.symm
 rw[Ah,←e,Bb]
theorem zyk {H:Tx→Tx→Option HM→Prop}{a b:Tx}{i:Nat} (ha:a≠[]) (hl:a.length≤b.length) (hi:Occ b a i) (hf: ∀j,j<i→¬Occ b a j):CompR H a b [(1,b.take i),(0,a),(1,b.drop (i+a.length))]:=by
 have e:=zj2 hi
 have hu:(b.take i).length=i:=by rw[An];exact Aw (ntr (Bc ..) hi.1)
 generalize b.take i=u at *
 generalize b.drop (i+a.length)=v at *
 subst e
 exact .inB ha hl fun j hj=>hf j (hu▸hj)
theorem zyt {H:Tx→Tx→Option HM→Prop}{a b:Tx}{i:Nat} (hb:b≠[]) (hl:b.length<a.length) (hi:Occ a b i) (hf: ∀j,j<i→¬Occ a b j):CompR H a b [(-1,a.take i),(0,b),(-1,a.drop (i+b.length))]:=by
 have e:=zj2 hi
 have hu:(a.take i).length=i:=by rw[An];exact Aw (ntr (Bc ..) hi.1)
 generalize a.take i=u at *
 generalize a.drop (i+b.length)=v at *
 subst e
 exact .inA hb hl fun j hj=>hf j (hu▸hj)
section
variable {P:PC}{Q:V→Mem→Prop}{t:Addr}{dl:V}{a b:Tx}{m:Mem}{H:Tx→Tx→Option HM→Prop}{z:Tz}
noncomputable def ztq (P:PC) (z:Tz) (H:Tx→Tx→Option HM→Prop) (t:Addr):Prop:= ∀(a b:Tx) (m:Mem) (Q:V→Mem→Prop),a.length+b.length≤41→a≠[]→b≠[]→TZ P z m t→(∀m' r,Gr m m'→H a b r→(∀h,r=some h→HM.ok a b h)→Q (hmV r) m')→P.meth "diff_halfMatch" [.obj t,.str a,.str b] Q m
noncomputable def z1z (P:PC) (z:Tz) (H:Tx→Tx→Option HM→Prop) (t:Addr) (dl:V) (a b:Tx):Prop:=4≤a.length+b.length→∀(m:Mem) (Q:V→Mem→Prop),TZ P z m t→
 (∀m' r L,Gr m m'→m r=none→m' r=some (.list (rv L))→(HNo H a b→(∀j,¬Occ (if b.length<a.length then a else b) (if b.length<a.length then b else a) j)→CompR H a b L)→Q (.obj r) m')→P.meth "diff_bisect" [.obj t,.str a,.str b,dl] Q m
noncomputable abbrev cpS (t:Addr) (a b:Tx) (dl:V) (l s:Tx) (u7 u8 u9 u10 u11 u12 u13 u14 u15 u16:Option V) (m:Mem):St:=
 ⟨[some (.obj t),some (.str a),some (.str b),some (.bool false),some dl,some (.str l),some (.str s),u7,u8,u9,u10,u11,u12,u13,u14,u15,u16],m⟩
theorem zxy {a1 a2 b1 b2 c n:Nat} (h:a1+c+a2+(b1+c+b2)≤n+1) (hc:0<c):a1+b1≤n∧a2+b2≤n:=by lia
theorem z5k {x y:Tx}{L:Row} (R:MainR H x y L):(rv L).length≤2 * (x.length+y.length):=by
 have G:=ziz R
 have h:=zja G.n G.k
 rw[G.m,G.p] at h
 rw[zl];exact ntr (llp L) h
theorem z1j {l s:Tx}{n:Nat}{hh:HM}{u7 u8:Option V}{Q5:Fl→St→Prop} (cE:P.cc "DIFF_EQUAL"=some (.int 0)) (hM:zmn P z H t dl n) (hT:TZ P z m t) (ho:HM.ok a b hh) (hn:a.length+b.length≤n+1) (hs:n≤40)
  (q: ∀m' r L1 L2,Gr m m'→m r=none→m' r=some (.list (rv (L1++(0,hh.c)::L2)))→MainR H hh.a1 hh.b1 L1→MainR H hh.a2 hh.b2 L2→∀σ':St,σ'.mem=m'→Q5 (.ret (.obj r)) σ'):
  zk P zae Q5 (cpS t a b dl l s u7 u8 (some (.tup [.str hh.a1,.str hh.a2,.str hh.b1,.str hh.b2,.str hh.c])) none none none none none none none m):=by
 have lh:=zxy (a1:=hh.a1.length) (b1:=hh.b1.length) (a2:=hh.a2.length) (b2:=hh.b2.length) (n:=n) (by rw[←Aa,←Aa,←Aa,←Aa,←ho.ea,←ho.eb];exact hn) (Bl.mpr ho.c0)
 have b1:=lh.1
 have b2:=lh.2
 clear lh ho hn
 unfold zae
 refine za fun Q6 n6 r6=>?_
 walk_at "D"
 refine⟨rfl,n6 _ (za fun Q7 n7 r7=>?_)⟩
 walk_at "D"
 refine⟨zd3 hT rfl,hM _ _ _ _ b1 hT fun m2 l1 L1 g2 _ h1 R1=>n7 _ (za fun Q8 n8 r8=>?_)⟩
 walk_at "D"
 have hT2:=hT.gr g2
 refine⟨zd3 hT2 rfl,hM _ _ _ _ b2 hT2 fun m3 l2 L2 g3 _ h2 R2=>n8 _ (ssn ?_)⟩
 walk_at "D"
 have v1:=z5k R1
 have v2:=z5k R2
 refine zbz (hT2.gr g3) rfl cE fun c hc=>?_
 have gc:=Gr.new hc (.list [V.tup [.int 0,.str hh.c]])
 refine⟨_,_,gc _ _ (g3 _ _ h1),ups _ _ _,by unfold sma;exact zT 43756489542613894176929009172685501077914184 rfl hs b1 v1,(by unfold sma;exact(by decide:1≤1000000)),fun e he=>?_⟩
 have ge:=Gr.new he (.list (rv L1++[V.tup [.int 0,.str hh.c]]))
 have g:=((g2.trans g3).trans gc).trans ge
 refine⟨_,_,ups _ _ _,ge _ _ (gc _ _ h2),by rw[Aa,List.length_singleton];unfold sma;exact zT 44806645280396501035267987301521437287335854664 rfl hs b1 v1,by unfold sma;exact zT 43756489542613894176929009172685501077914184 rfl hs b2 v2,fun r hr=>q _ r L1 L2 (g.trans (Gr.new hr _)) (g.fresh hr) ?_ R1 R2 _ rfl⟩
 rw[show rv L1++[V.tup [.int 0,.str hh.c]]++rv L2=rv (L1++(0,hh.c)::L2) by rw[←zqm,Ah];rfl]
 exact ups _ _ _
theorem z0y {l s:Tx}{n:Nat} (cD:P.cc "DIFF_DELETE"=some (.int (-1))) (cI:P.cc "DIFF_INSERT"=some (.int 1)) (cE:P.cc "DIFF_EQUAL"=some (.int 0)) (hM:zmn P z H t dl n) (hH:ztq P z H t) (hB:z1z P z H t dl a b) (hT:TZ P z m t)
  (ha:a≠[]) (hb:b≠[]) (hn:a.length+b.length≤n+1) (hs:n≤40) (hl:l=if b.length<a.length then a else b) (hsh:s=if b.length<a.length then b else a)
  (h: ∀m' r L,Gr m m'→m r=none→m' r=some (.list (rv L))→CompR H a b L→Q (.obj r) m'):
  zk P [.assign [.var 7] (.me (.var 5) .find [.var 6]),
  .ife (.cmp (.var 7) [.NotEq] [.neg (.lit (.int 1))]) zbl [],
  .ife (.cmp (.bi .len [.var 6]) [.Eq] [.lit (.int 1)]) [
   .ret (.list [.tup [.attr (.var 0) "DIFF_DELETE",.var 1],.tup [.attr (.var 0) "DIFF_INSERT",.var 2]])] [],
  .assign [.var 9] (.imeth (.var 0) "diff_halfMatch" [.var 1,.var 2]),
  .ife (.var 9) zae [],
  .ife (.band [.var 3,.cmp (.bi .len [.var 1]) [.Gt] [.lit (.int 100)],.cmp (.bi .len [.var 2]) [.Gt] [.lit (.int 100)]]) [.junk] [],
  .ret (.imeth (.var 0) "diff_bisect" [.var 1,.var 2,.var 4])] (fun fl σ'=>Q (retV fl) σ'.mem) (cpS t a b dl l s none none none none none none none none none none m):=by
 have hla:sma l.length:=by unfold sma;rw[hl];split<;>grind
 have hls:sma s.length:=by unfold sma;rw[hsh];split<;>grind
 have hsa:sma a.length:=by unfold sma;grind
 have hsb:sma b.length:=by unfold sma;grind
 refine za fun Q1 n1 r1=>?_
 walk_at "D"
 refine⟨trivial,hla,hls,fun i hi=>n1 _ (za fun Q2 n2 r2=>zf fun K kt kf=>?_)⟩
 walk_at "D"
 rcases hi with ⟨rfl,no⟩ | ⟨i,rfl,_,hi,hf⟩
 ·refine kf _ (zc (n2 _ (za fun Q3 n3 r3=>zf fun K' kt' kf'=>?_)))
  walk_at "D"
  refine⟨hls,?_⟩
  have hlen:s.length=if b.length<a.length then b.length else a.length:=by rw[hsh];split<;>rfl
  have no': ∀j,¬Occ (if b.length<a.length then a else b) (if b.length<a.length then b else a) j:=fun j q=>no j (Bq _) (by rw[hl,hsh];exact q)
  by_cases c1:s.length=1
  ·rw[Af (by exact Ad (zm 35249199776298 rfl c1) (zm 8281099669547 rfl c1):(s.length:Int)=1)]
   refine kt' _ (ssn ?_)
   walk_at "D"
   exact zbz hT rfl cD (zbz hT rfl cI fun r hr=>r3 _ _ (h _ r _ (Gr.new hr _) hr (ups _ _ _) (.one ha hb (hlen▸c1) no')))
  ·rw[Ae (by grind: ¬(s.length:Int)=1)]
   refine kf' _ (zc (n3 _ (za fun Q4 n4 r4=>?_)))
   walk_at "D"
   refine⟨zd3 hT rfl,hH a b m _ (by exact zj 56416028551481126694379263104040 rfl hn hs) ha hb hT fun m1 r g1 hr' ho=>n4 _ (za fun Q5 n5 r5=>zf fun K2 kt2 kf2=>?_)⟩
   cases r with
   | some hh=>
    have ho:=ho hh rfl
    dsimp only[r_lit,r_var,r_bin,r_neg,r_not,r_list,r_tup,r_cmp,r_band,r_bor,r_idx,r_slc,r_attr,r_bi,r_call,r_me,r_imeth,r_comp,r_ch2,r_es0,r_es1,r_ch1,r_bo1,r_bo2,r_tnot,r_tband,r_tbor,r_tcmp,r_tvar,r_tcall,r_tme,r_tidx,r_tbi,r_ts0,r_ts1,r_tgs0,r_tgs1,r_sexpr,r_sassign,r_saug,r_sdel,r_sife,r_swhl,r_sfr,r_sret,r_ss0,r_ss1,tg_var,tg_tup,tg_idx,tg_slc,bin_add,bin_sub,bin_mul,bin_div,bin_mod,bin_cat,cmp_eqi,cmp_eqs,cmp_nei,cmp_nes,cmp_lt,cmp_le,cmp_gt,cmp_ge,tr_none,tr_bool,tr_int,tr_str,tr_tup,ix_str,ix_tup,sl_ii,sl_in,sl_ni,bi_lens,bi_lent,bi_min,bi_rng,bi_rng2,me_find,me_find2,ok_find,me_app,ok_app,me_ins,me_pop,me_join,me_ends,me_starts,ok_ins,ok_pop,ok_join,ok_ends,ok_starts,it_str,it_rng,neg_int,aug_addi,aug_adds,aug_subi,St.set,St.setAll,List.map_cons,List.map_nil,List.replicate,List.cons_append,List.nil_append,List.getElem?_cons_succ,List.getElem?_cons_zero,List.set_cons_succ,List.set_cons_zero,List.length_cons,List.length_nil,dreduceIte,retV,hmV]
    refine⟨by unfold sma;show 5≤_;exact zqp 34517783957560 rfl,kt2 _ ?_⟩
    exact z1j cE hM (hT.gr g1) ho hn hs fun m' r L1 L2 g' f' e' R1 R2 σ' eσ=>r5 _ _ (show Q (.obj r) σ'.mem by rw[eσ];exact h m' r _ (g1.trans g') (g1.fresh f') e' (.half no' hr' ho R1 R2))
   | none=>
    have h4:4≤a.length+b.length:=by
     have h1:=Bl.mpr ha
     have h2:=Bl.mpr hb
     split at hlen
     ·lia
     ·lia
    dsimp only[r_lit,r_var,r_bin,r_neg,r_not,r_list,r_tup,r_cmp,r_band,r_bor,r_idx,r_slc,r_attr,r_bi,r_call,r_me,r_imeth,r_comp,r_ch2,r_es0,r_es1,r_ch1,r_bo1,r_bo2,r_tnot,r_tband,r_tbor,r_tcmp,r_tvar,r_tcall,r_tme,r_tidx,r_tbi,r_ts0,r_ts1,r_tgs0,r_tgs1,r_sexpr,r_sassign,r_saug,r_sdel,r_sife,r_swhl,r_sfr,r_sret,r_ss0,r_ss1,tg_var,tg_tup,tg_idx,tg_slc,bin_add,bin_sub,bin_mul,bin_div,bin_mod,bin_cat,cmp_eqi,cmp_eqs,cmp_nei,cmp_nes,cmp_lt,cmp_le,cmp_gt,cmp_ge,tr_none,tr_bool,tr_int,tr_str,tr_tup,ix_str,ix_tup,sl_ii,sl_in,sl_ni,bi_lens,bi_lent,bi_min,bi_rng,bi_rng2,me_find,me_find2,ok_find,me_app,ok_app,me_ins,me_pop,me_join,me_ends,me_starts,ok_ins,ok_pop,ok_join,ok_ends,ok_starts,it_str,it_rng,neg_int,aug_addi,aug_adds,aug_subi,St.set,St.setAll,List.map_cons,List.map_nil,List.replicate,List.cons_append,List.nil_append,List.getElem?_cons_succ,List.getElem?_cons_zero,List.set_cons_succ,List.set_cons_zero,List.length_cons,List.length_nil,dreduceIte,retV,hmV]
    refine kf2 _ (zc (n5 _ (za fun Q6 n6 r6=>zf fun K3 kt3 kf3=>?_)))
    walk_at "D"
    refine kf3 _ (zc (n6 _ (ssn ?_)))
    walk_at "D"
    exact⟨zd3 (hT.gr g1) rfl,hB h4 m1 _ (hT.gr g1) fun m2 r L g2 hf2 hr2 hc=>h m2 r L (g1.trans g2) (g1.fresh hf2) hr2 (hc ⟨hr',hlen▸c1⟩ no')⟩
 ·rw[Ae (by grind: ¬(i:Int)=-1)]
  refine kt _ ?_
  unfold zbl
  have e:=zj2 hi
  have hi1:i≤l.length:=ntr (Bc ..) hi.1
  refine za fun Q3 n3 r3=>?_
  walk_at "D"
  refine zbz hT rfl cI ⟨hla,zbz hT rfl cE (zbz hT rfl cI ⟨hls,hla,fun c hc=>n3 _ ?_⟩)⟩
  rw[zb4 l hi1,show(i:Int)+(s.length:Int)=((i+s.length:Nat):Int) by exact Ad (ze 317033342366768 rfl) (ze 347511210421808 rfl),zQ l hi.1]
  have gc:=Gr.new hc (.list (rv [(1,l.take i),(0,s),(1,l.drop (i+s.length))]))
  have mc:upd m c (.list (rv [(1,l.take i),(0,s),(1,l.drop (i+s.length))])) c=some (.list (rv [(1,l.take i),(0,s),(1,l.drop (i+s.length))])):=ups _ _ _
  have fin: ∀(m':Mem) (L:Row),m' c=some (.list (rv L))→Ext c (upd m c (.list (rv [(1,l.take i),(0,s),(1,l.drop (i+s.length))]))) m'→CompR H a b L→Q (.obj c) m':=fun m' L h1 hx hc'=>h m' c L (fun x o e=>hx x o (fun q=>by subst q;rw[show m x=none from hc] at e;exact(Am _ e.symm).elim) (gc x o e)) hc h1 hc'
  show zk P _ Q2 (cpS t a b dl l s (some (.int i)) (some (.obj c)) none none none none none none none none (upd m c (.list (rv [(1,l.take i),(0,s),(1,l.drop (i+s.length))]))))
  have hT':=hT.gr gc
  generalize upd m c (.list (rv [(1,l.take i),(0,s),(1,l.drop (i+s.length))]))=m1 at mc hT' fin ⊢
  refine za fun Q4 n4 r4=>zf fun K' kt' kf'=>?_
  walk_at "D"
  refine⟨hsa,hsb,?_⟩
  by_cases c1:b.length<a.length
  ·rw[Af (Bj.mpr c1)]
   rw[if_pos c1] at hl hsh
   subst hl hsh
   refine kt' _ ?_
   unfold zdy
   have t0:=zfu 0 (by exact zqp 4273995833 rfl)
   have t2:=zfu 2 (by exact zqp 4274004025 rfl)
   have hex: ∃l,m1 c=some (.list l):=⟨_,mc⟩
   refine za fun Q5 n5 r5=>?_
   walk_at "D"
   refine zbz hT' rfl cD (zh mc t0 (q:=(1,l.take i)) rfl (z0 ⟨c,0,_,0,rfl,rfl,t0,mc,rfl,n5 _ ?_⟩))
   have mc2:upd m1 c (.list (rv [(-1,l.take i),(0,s),(1,l.drop (i+s.length))])) c=some (.list (rv [(-1,l.take i),(0,s),(1,l.drop (i+s.length))])):=ups _ _ _
   have x2:Ext c m1 (upd m1 c (.list (rv [(-1,l.take i),(0,s),(1,l.drop (i+s.length))]))):= .upd _ _ _
   show zk P _ Q4 (cpS t _ _ dl _ _ (some (.int i)) (some (.obj c)) none none none none none none none none (upd m1 c (.list (rv [(-1,l.take i),(0,s),(1,l.drop (i+s.length))]))))
   have hT2:=hT'.ext hex x2
   generalize upd m1 c (.list (rv [(-1,l.take i),(0,s),(1,l.drop (i+s.length))]))=m2 at mc2 x2 hT2 ⊢
   refine ssn ?_
   walk_at "D"
   refine zbz hT2 rfl cD (zh mc2 t2 (q:=(1,l.drop (i+s.length))) rfl (z0 ⟨c,2,_,2,rfl,rfl,t2,mc2,rfl,n4 _ (ssn ?_)⟩))
   walk_at "D"
   have mc3:upd m2 c (.list (rv [(-1,l.take i),(0,s),(-1,l.drop (i+s.length))])) c=some (.list (rv [(-1,l.take i),(0,s),(-1,l.drop (i+s.length))])):=ups _ _ _
   exact r2 _ _ (fin _ _ mc3 (x2.trans (.upd _ _ _)) (zyt hb c1 hi fun j hj=>hf j (Bq _) hj))
  ·rw[Ae (by exact Bk.mpr (ze 347510502130220 rfl c1): ¬(b.length:Int)<a.length)]
   rw[if_neg c1] at hl hsh
   subst hl hsh
   refine kf' _ (zc (n4 _ (ssn ?_)))
   walk_at "D"
   exact r2 _ _ (fin _ _ mc (.refl _ _) (zyk ha (by exact ze 4952567644716 rfl c1) hi fun j hj=>hf j (Bq _) hj))
end
section
variable {P:PC}{Q:V→Mem→Prop}{t:Addr}{dl:V}{a b:Tx}{m:Mem}{H:Tx→Tx→Option HM→Prop}{z:Tz}
theorem zt1 {n:Nat} (cD:P.cc "DIFF_DELETE"=some (.int (-1))) (cI:P.cc "DIFF_INSERT"=some (.int 1)) (cE:P.cc "DIFF_EQUAL"=some (.int 0)) (hM:zmn P z H t dl n) (hH:ztq P z H t) (hB:a≠[]→b≠[]→z1z P z H t dl a b) (hT:TZ P z m t)
  (hne:a≠[]∨b≠[]) (hn:a.length+b.length≤n+1) (hs:n≤40)
  (h: ∀m' r L,Gr m m'→m r=none→m' r=some (.list (rv L))→CompR H a b L→Q (.obj r) m'):
  zk P yB (fun fl σ'=>Q (retV fl) σ'.mem) ⟨[.obj t,.str a,.str b,.bool false,dl].map some++List.replicate 12 none,m⟩:=by
 have hsa:sma a.length:=by unfold sma;exact zj 40751406482455572450299105809798184 rfl hn hs
 have hsb:sma b.length:=by unfold sma;exact zj 40751406487291275728757622508622888 rfl hn hs
 show zk P _ _ ⟨[some (.obj t),some (.str a),some (.str b),some (.bool false),some dl,none,none,none,none,none,none,none,none,none,none,none,none],m⟩
 unfold yB
 refine za fun Q1 n1 r1=>zf fun K kt kf=>?_
 walk_at "D"
 refine⟨hsa,?_⟩
 cases a with
 | nil=>
  refine kt _ (ssn ?_)
  walk_at "D"
  exact zbz hT rfl cI fun r hr=>r1 _ _ (h _ r _ (Gr.new hr _) hr (ups _ _ _) (.ins (hne.resolve_left fun q=>q rfl)))
 | cons x as=>
 refine kf _ (zc (n1 _ (za fun Q2 n2 r2=>zf fun K' kt' kf'=>?_)))
 walk_at "D"
 refine⟨hsb,?_⟩
 cases b with
 | nil=>
  refine kt' _ (ssn ?_)
  walk_at "D"
  exact zbz hT rfl cD fun r hr=>r2 _ _ (h _ r _ (Gr.new hr _) hr (ups _ _ _) (.del (fun q=>nomatch q)))
 | cons y bs=>
 have ha:x::as≠[]:=fun q=>nomatch q
 have hb:y::bs≠[]:=fun q=>nomatch q
 refine kf' _ (zc (n2 _ ?_))
 clear kt kf kt' kf' n1 n2 r1 r2
 generalize x::as=a at *
 generalize y::bs=b at *
 refine za fun Q3 n3 r3=>zf fun K2 kt2 kf2=>?_
 walk_at "D"
 refine⟨hsa,hsb,?_⟩
 have rest: ∀l s,(l=if b.length<a.length then a else b)→(s=if b.length<a.length then b else a)→Q3 .next (cpS t a b dl l s none none none none none none none none none none m):=fun l s e1 e2=>
  n3 _ (z0y cD cI cE hM hH (hB ha hb) hT ha hb hn hs e1 e2 h)
 by_cases c:b.length<a.length
 ·rw[Af (Bj.mpr c)]
  refine kt2 _ (ssn ?_)
  walk_at "D"
  exact⟨rfl,rest a b (if_pos c).symm (if_pos c).symm⟩
 ·rw[Ae (by exact Bk.mpr (ze 347510502130220 rfl c): ¬(b.length:Int)<a.length)]
  refine kf2 _ (ssn ?_)
  walk_at "D"
  exact⟨rfl,rest b a (if_neg c).symm (if_neg c).symm⟩
end
theorem z6j {α:Type} (xs ys:List α):xs.take (zfj xs.length none)++ys++xs.drop (max (zfj xs.length none) (zh5 xs.length (some 0)))=ys++xs:=by
 have:zh5 xs.length (some 0)=0:=by unfold zh5;exact(zfl (n:=xs.length) (i:=0)).trans (Nat.zero_min _)
 rw[this];rfl
theorem zp1 {m:Mem}{x:Tx}{K:Bool→Prop} (h:K false):zdw m .Eq (.str x) .none K:=
 ⟨.str (mkS x),.none,rfl,rfl,by rw[show PyData.eqv (.str (mkS x)) .none=false by simp[PyData.eqv]];exact h⟩
theorem zp7 (a b:Tx):Apart (rn b a) (ro b a) where
 hd x y as bs h1 h2:=by
  have:=zty (o:=b) (n:=a) (by rw[h2];exact fun q=>nomatch q) (by rw[h1];exact fun q=>nomatch q)
  rw[h1,h2] at this
  exact fun q=>this (by rw[q];rfl)
 tl x y as bs h1 h2:=by
  have:=zu9 (o:=b) (n:=a) (by rw[h2];simp) (by rw[h1];simp)
  rw[h1,h2] at this
  exact fun q=>this (by rw[q];simp)
section
variable {P:PC}{Q:V→Mem→Prop}{t:Addr}{dl:V}{a b:Tx}{m:Mem}{H:Tx→Tx→Option HM→Prop}{z:Tz}
noncomputable def zpc (P:PC) (z:Tz) (t:Addr):Prop:= ∀(d:Addr) (L:Row) (m:Mem) (Q:V→Mem→Prop),TZ P z m t→m d=some (.list (rv L))→zg L→phi L<100→(∀m',m' d=some (.list (rv (zA 100 L)))→Ext d m m'→Q .none m')→P.meth "diff_cleanupMerge" [.obj t,.obj d] Q m
noncomputable def zzb (P:PC) (z:Tz) (H:Tx→Tx→Option HM→Prop) (t:Addr) (dl:V) (n:Nat):Prop:= ∀(a b:Tx) (m:Mem) (Q:V→Mem→Prop),a.length+b.length≤n→(a≠[]∨b≠[])→Apart a b→TZ P z m t→
 (∀m' r L,Gr m m'→m r=none→m' r=some (.list (rv L))→CompR H a b L→Q (.obj r) m')→P.meth "diff_compute" [.obj t,.str a,.str b,.bool false,dl] Q m
noncomputable abbrev mnS (t:Addr) (a b:Tx) (dl:V) (u5 u6 u7 u8:Option V) (m:Mem):St:=⟨[some (.obj t),some (.str a),some (.str b),some (.bool false),some dl,u5,u6,u7,u8],m⟩
theorem z6i {a2 b2 p s:Tx}{L:Row}{d:Addr}{u5:Option V} (c:Cm P) (hC:zpc P z t) (hT:TZ P z m t) (hne:p++a2++s≠p++b2++s) (hlp:lcp (p++a2++s) (p++b2++s)=p.length) (hA:Apart a2 b2) (hn:(p++a2++s).length+(p++b2++s).length≤40)
  (hm:m d=some (.list (rv L))) (hc:CompR H a2 b2 L) (h: ∀m' L,Ext d m m'→m' d=some (.list (rv L))→MainR H (p++a2++s) (p++b2++s) L→Q (.obj d) m'):
  zk P [.ife (.var 6) [
   .assign [.slc (.var 8) (.lit .none) (.lit (.int 0))] (.list [.tup [.attr (.var 0) "DIFF_EQUAL",.var 6]])] [],
  .ife (.var 7) [
   .expr (.me (.var 8) .append [.tup [.attr (.var 0) "DIFF_EQUAL",.var 7]])] [],
  .expr (.imeth (.var 0) "diff_cleanupMerge" [.var 8]),
  .ret (.var 8)] (fun fl σ'=>Q (retV fl) σ'.mem) (mnS t a2 b2 dl u5 (some (.str p)) (some (.str s)) (some (.obj d)) m):=by
 simp only[Aa] at hn
 have C:=zsm hc hA
 have hp1:=zja C.n C.k
 rw[C.m,C.p] at hp1
 have hL:=llp L
 have one_phi: ∀x:Tx,phi (zd1 x)≤x.length+1:=fun x=>by
  unfold zd1;split
  ·exact Bq _
  ·rw[zd];exact Al _
 have hph:phi (zd1 p++L++zd1 s)<100:=by
  rw[pha,pha]
  have:=one_phi p;have:=one_phi s;grind
 have hK:zg (zd1 p++L++zd1 s):=((zcx p).append C.k).append (zcx s)
 have fin: ∀m',m' d=some (.list (rv (zd1 p++L++zd1 s)))→Ext d m m'→zk P [.expr (.imeth (.var 0) "diff_cleanupMerge" [.var 8]),.ret (.var 8)] (fun fl σ'=>Q (retV fl) σ'.mem) (mnS t a2 b2 dl u5 (some (.str p)) (some (.str s)) (some (.obj d)) m'):=fun m' h1 hx=>by
  have hT':=hT.ext ⟨_,hm⟩ hx
  refine za fun Q1 n1 r1=>?_
  walk_at "D"
  refine⟨zd3 hT' rfl,hC d _ m' _ hT' h1 hK hph fun m'' h2 hx2=>n1 _ (ssn ?_)⟩
  exact h m'' _ (hx.trans hx2) h2 (.diff hne hlp hA hc hph)
 have app: ∀m',m' d=some (.list (rv (zd1 p++L)))→Ext d m m'→zk P [.ife (.var 7) [
   .expr (.me (.var 8) .append [.tup [.attr (.var 0) "DIFF_EQUAL",.var 7]])] [],
  .expr (.imeth (.var 0) "diff_cleanupMerge" [.var 8]),.ret (.var 8)] (fun fl σ'=>Q (retV fl) σ'.mem) (mnS t a2 b2 dl u5 (some (.str p)) (some (.str s)) (some (.obj d)) m'):=fun m' h1 hx=>by
  have hT':=hT.ext ⟨_,hm⟩ hx
  refine za fun Q1 n1 r1=>zf fun K kt kf=>?_
  walk_at "D"
  refine⟨by unfold sma;exact zT 5216180030997089016269651928196391976 rfl hn,?_⟩
  cases s with
  | nil=>exact kf _ (zc (n1 _ (fin m' (by rw[show zd1 p++L++zd1 []=zd1 p++L from Ag _];exact h1) hx)))
  | cons x s=>
   refine kt _ (ssn ?_)
   walk_at "D"
   refine⟨⟨_,h1⟩,zbz hT' c.cE.1 c.cE.2 ⟨_,h1,?_,n1 _ (fin _ ?_ (hx.trans (.upd _ _ _)))⟩⟩
   ·rw[zl,Aa]
    have:(zd1 p).length≤1:=by unfold zd1;split<;>simp
    unfold sma;exact zmi 413268359249839170705100002176820705427419565666567029573620597288 rfl hp1 hL hn this
   ·rw[ups,show[V.tup [V.int 0,V.str (x::s)]]=rv (zd1 (x::s)) from rfl,zqm]
 refine za fun Q1 n1 r1=>zf fun K kt kf=>?_
 walk_at "D"
 refine⟨by unfold sma;exact zT 5216180029759148976984271653297267752 rfl hn,?_⟩
 cases p with
 | nil=>exact kf _ (zc (n1 _ (app m hm (.refl _ _))))
 | cons x p=>
  refine kt _ (ssn ?_)
  walk_at "D"
  refine zbz hT c.cE.1 c.cE.2 fun e he=>?_
  have hde:d≠e:=fun q=>by subst q;rw[show m d=none from he] at hm;cases hm
  refine⟨d,e,none,some 0,_,_,rfl,rfl,rfl,rfl,hde,(Gr.new he _) _ _ hm,ups _ _ _,by rw[zl];unfold sma;exact zn7 48110769042763217938444002858398057186246750946041528872 rfl hp1 hL hn,by unfold sma;exact(by decide:1≤1000000),n1 _ (app _ ?_ ?_)⟩
  ·rw[ups,z6j]
   rw[show[V.tup [V.int 0,V.str (x::p)]]=rv (zd1 (x::p)) from rfl,zqm]
  ·exact(Ext.new he _).trans (.upd _ _ _)
theorem zzu {n:Nat} (c:Cm P) (hK:zzb P z H t dl n) (hC:zpc P z t) (hT:TZ P z m t) (hn:a.length+b.length≤n) (hs:n≤40)
  (h: ∀m' r L,Gr m m'→m r=none→m' r=some (.list (rv L))→MainR H a b L→Q (.obj r) m'):
  zk P zai (fun fl σ'=>Q (retV fl) σ'.mem) ⟨[.obj t,.str a,.str b,.bool false,dl].map some++List.replicate 4 none,m⟩:=by
 have hsa:sma a.length:=by unfold sma;exact zj 39796295393023019970995820172328 rfl hn hs
 have hsb:sma b.length:=by unfold sma;exact zj 39796295397745386453865465386024 rfl hn hs
 show zk P _ _ (mnS t a b dl none none none none m)
 unfold zai
 refine za fun Q1 n1 r1=>zf fun K kt kf=>?_
 walk_at "D"
 refine zp1 ?_
 rw[if_pos rfl]
 refine zp1 ?_
 rw[if_pos rfl]
 refine kf _ (zc (n1 _ (za fun Q2 n2 r2=>zf fun K' kt' kf'=>?_)))
 walk_at "D"
 by_cases hab:a=b
 ·rw[Af hab]
  subst hab
  refine kt' _ ?_
  unfold zgm
  refine za fun Q3 n3 r3=>zf fun K2 kt2 kf2=>?_
  walk_at "D"
  refine⟨hsa,?_⟩
  have res:=MainR.same (H:=H) a
  cases a with
  | nil=>
   refine kf2 _ (zc (n3 _ (ssn ?_)))
   walk_at "D"
   exact fun r hr=>r2 _ _ (h _ r [] (Gr.new hr _) hr (ups _ _ _) res)
  | cons x as=>
   refine kt2 _ (ssn ?_)
   walk_at "D"
   exact zbz hT c.cE.1 c.cE.2 fun r hr=>r3 _ _ (r2 _ _ (h _ r _ (Gr.new hr _) hr (ups _ _ _) res))
 ·rw[Ae hab]
  refine kf' _ (zc (n2 _ (za fun Q3 n3 r3=>?_)))
  walk_at "D"
  have hl:=yZ a b
  have ea:pre b a++rn b a++su b a=a:=ztm b a
  have eb:pre b a++ro b a++su b a=b:=zlj b a
  refine⟨zd3 hT c.fp,c.cp hsa hsb (n3 _ (za fun Q4 n4 r4=>?_))⟩
  walk_at "D"
  refine⟨hsa,n4 _ (za fun Q5 n5 r5=>?_)⟩
  walk_at "D"
  refine⟨hsa,n5 _ (za fun Q6 n6 r6=>?_)⟩
  walk_at "D"
  refine⟨hsb,n6 _ (za fun Q7 n7 r7=>?_)⟩
  rw[zb4 a hl.1,zQ a hl.1,zQ b hl.2]
  show wpS P _ Q7 (mnS t (mn b a) (mo b a) dl (some (.int (lcp a b:Nat))) (some (.str (pre b a))) none none m)
  have hla:sma (mn b a).length:=by unfold sma mn;rw[Ap];exact zd8 341847574551669824780579710767223414461480 rfl hn hs (Ab (ze 4952567644712 rfl hl.1))
  have hlb:sma (mo b a).length:=by unfold sma mo;rw[Ap];exact zd8 341847574551670443750599353457360864023592 rfl hn hs (Ab (ze 4952567644712 rfl hl.2))
  walk_at "D"
  refine⟨zd3 hT c.fs,c.cs hla hlb (n7 _ (za fun Q8 n8 r8=>zf fun K2 kt2 kf2=>?_))⟩
  walk_at "D"
  have hms:=zgk (mn b a) (mo b a)
  have rest: ∀u5,Q8 .next (mnS t (rn b a) (ro b a) dl u5 (some (.str (pre b a))) (some (.str (su b a))) none m):=fun u5=>n8 _ (za fun Q9 n9 r9=>by
   have l1:=congrArg List.length ea
   have l2:=congrArg List.length eb
   simp only[Aa] at l1 l2
   walk_at "D"
   refine⟨zd3 hT rfl,hK _ _ _ _ (by exact zmi 775389897169060467394561533180954075560678440 rfl hn l1 l2) ?_ (zp7 a b) hT fun m1 r L g1 hf h1 hc=>n9 _ ?_⟩
   ·by_cases q:rn b a=[]
    ·refine .inr fun q2=>hab ?_
     rw[q] at ea;rw[q2] at eb
     exact ea.symm.trans eb
    ·exact .inl q
   ·refine z6i (H:=H) c hC (hT.gr g1) (by rw[ea,eb];exact hab) (by rw[ea,eb];unfold pre;rw[An,Aw hl.1]) (zp7 a b) (by rw[ea,eb];exact ntr ‹_› ‹_›) h1 hc fun m2 L' hx h2 R=>?_
    rw[ea,eb] at R
    exact h m2 r L' (fun x o e=>hx x o (fun q=>by subst q;rw[hf] at e;cases e) (g1 x o e)) hf h2 R)
  by_cases c0:lcs (mn b a) (mo b a)=0
  ·rw[Af (by exact Ad (zm 64827163178 rfl c0) (zm 983088 rfl):((lcs (mn b a) (mo b a):Nat):Int)=0)]
   refine kt2 _ (ssn ?_)
   walk_at "D"
   have e1:rn b a=mn b a:=by unfold rn ms;rw[c0];exact Bd (by exact zm 66104 rfl)
   have e2:ro b a=mo b a:=by unfold ro ms;rw[c0];exact Bd (by exact zm 66104 rfl)
   have e3:su b a=[]:=by unfold su ms;rw[c0];exact List.drop_of_length_le (by exact ze 5071428668490283 rfl (Ab (zm 65592 rfl)))
   have:=rest (some (.int (lcs (mn b a) (mo b a):Nat)))
   rw[e1,e2,e3] at this
   exact this
  ·rw[Ae (by grind: ¬((lcs (mn b a) (mo b a):Nat):Int)=0)]
   refine kf2 _ ?_
   unfold zft
   refine za fun Q9 n9 r9=>?_
   walk_at "D"
   refine⟨hla,n9 _ (za fun Q10 n10 r10=>?_)⟩
   walk_at "D"
   refine⟨hla,n10 _ (ssn ?_)⟩
   walk_at "D"
   refine⟨hlb,?_⟩
   rw[zgu (by(clear hn hs hl hms;lia)) hms.1,ze0 (by grind) hms.1,ze0 (by grind) hms.2]
   exact rest _
end
inductive DmM (cls:Addr) (H:Tx→Tx→Option HM→Prop) (z:Tz) (j:Nat):String→List V→(V→Mem→Prop)→Mem→Prop
 | cm {f:String} {vs:List V} {Q:V→Mem→Prop} {m:Mem}:zna cls 100 f vs Q m→DmM cls H z j f vs Q m
 | half {t:Addr} {a b:Tx} {Q:V→Mem→Prop} {m:Mem}:a.length+b.length≤41→a≠[]→b≠[]→TZ (za9 cls) z m t→(∀m' r,Gr m m'→H a b r→(∀h,r=some h→HM.ok a b h)→Q (hmV r) m')→DmM cls H z j "diff_halfMatch" [.obj t,.str a,.str b] Q m
 | main {t:Addr} {a b:Tx} {dl:V} {Q:V→Mem→Prop} {m:Mem}:TZ (za9 cls) z m t→a.length+b.length≤40→4 * (a.length+b.length)+4≤j→(∀m' r L,Gr m m'→m r=none→m' r=some (.list (rv L))→MainR H a b L→Q (.obj r) m')→DmM cls H z j "diff_main" [.obj t,.str a,.str b,.bool false,dl] Q m
 | comp {t:Addr} {a b:Tx} {dl:V} {Q:V→Mem→Prop} {m:Mem}:TZ (za9 cls) z m t→a.length+b.length≤40→4 * (a.length+b.length)+3≤j→(a≠[]∨b≠[])→Apart a b→(∀m' r L,Gr m m'→m r=none→m' r=some (.list (rv L))→CompR H a b L→Q (.obj r) m')→DmM cls H z j "diff_compute" [.obj t,.str a,.str b,.bool false,dl] Q m
 | bis {t:Addr} {a b:Tx} {dl:V} {Q:V→Mem→Prop} {m:Mem}:TZ (za9 cls) z m t→a.length+b.length≤40→4 * (a.length+b.length)+2≤j→2≤zw a b→4≤a.length+b.length→a≠[]→b≠[]→(∀m' r L,Gr m m'→m r=none→m' r=some (.list (rv L))→(HNo H a b→zsa a b→CompR H a b L)→Q (.obj r) m')→DmM cls H z j "diff_bisect" [.obj t,.str a,.str b,dl] Q m
 | split {t:Addr} {a b:Tx} {dl:V} {Q:V→Mem→Prop} {m:Mem} {x y:Nat}:TZ (za9 cls) z m t→a.length+b.length≤40→4 * (a.length+b.length)+1≤j→Meet a b x y→(∀m' r L1 L2,Gr m m'→m r=none→m' r=some (.list (rv (L1++L2)))→MainR H (a.take x) (b.take y) L1→MainR H (a.drop x) (b.drop y) L2→Q (.obj r) m')→DmM cls H z j "diff_bisectSplit" [.obj t,.str a,.str b,.int x,.int y,dl] Q m
noncomputable def pcD (cls:Addr) (H:Tx→Tx→Option HM→Prop) (z:Tz) (j:Nat):PC:={za9 cls with meth:=DmM cls H z j}
section
variable {cls:Addr}{H:Tx→Tx→Option HM→Prop}{z:Tz}{j:Nat}{t:Addr}{dl:V}{a b:Tx}
theorem zzg (cls:Addr) (H:Tx→Tx→Option HM→Prop) (z:Tz) (j:Nat):Cm (pcD cls H z j) where
 cD:=⟨rfl,rfl⟩
 cI:=⟨rfl,rfl⟩
 cE:=⟨rfl,rfl⟩
 fp:=rfl
 fs:=rfl
 fm:=rfl
 cp:=fun h1 h2 q=> .cm (.inl ⟨rfl,_,_,_,rfl,h1,h2,q⟩)
 cs:=fun h1 h2 q=> .cm (.inr (.inl ⟨rfl,_,_,_,rfl,h1,h2,q⟩))
theorem zmx:zpc (pcD cls H z j) z t:=fun d L m Q hT hm hk hp q=>
 .cm (.inr (.inr ⟨rfl,t,d,L,rfl,hT.tool,hm,hk,hp,by exact zm 9168204161431372329 rfl hp,q⟩))
theorem zxu:ztq (pcD cls H z j) z H t:=fun a b m Q h1 ha hb hT q=> .half h1 ha hb hT q
theorem zq0 {n:Nat} (hn:4 * n+4≤j) (h40:n≤40):zmn (pcD cls H z j) z H t dl n:=fun a b m Q h1 hT q=>
 .main hT (ntr h1 h40) (ntr (Nat.add_le_add_right (Nat.mul_le_mul_left 4 h1) 4) hn) q
theorem zp6 {n:Nat} (hn:4 * n+3≤j) (h40:n≤40):zzb (pcD cls H z j) z H t dl n:=fun a b m Q h1 h2 hA hT q=>
 .comp hT (ntr h1 h40) (ntr (Nat.add_le_add_right (Nat.mul_le_mul_left 4 h1) 3) hn) h2 hA q
theorem z00 (hn:4 * (a.length+b.length)+2≤j) (h40:a.length+b.length≤40) (hd:2≤zw a b) (ha:a≠[]) (hb:b≠[]):z1z (pcD cls H z j) z H t dl a b:=fun h4 m Q hT q=>
 .bis hT h40 hn hd h4 ha hb q
theorem zvn {a b:Tx} (ha:a≠[]) (hb:b≠[]) (A:Apart a b):2≤zw a b:=by
 obtain⟨x,as,rfl⟩:=List.exists_cons_of_ne_nil ha
 obtain⟨y,bs,rfl⟩:=List.exists_cons_of_ne_nil hb
 exact zw8 (A.hd _ _ _ _ rfl rfl) (List.dropLast_concat_getLast ha).symm (List.dropLast_concat_getLast hb).symm (A.tl _ _ _ _ (List.dropLast_concat_getLast ha).symm (List.dropLast_concat_getLast hb).symm)
noncomputable def zus (K:Frag) (cls:Addr) (fns meths:List String):Bool:=
 zqq K (meA K cls "diff_main") [.bool true,.none] zbq zam (ze3 zbq zam zd2 fns meths zd5) zai &&
 zjd K (meA K cls "diff_compute") zad yC (ze3 zad yC zb7 fns meths zb1) yB &&
 zjd K (meA K cls "diff_bisect") zao yP (ze3 zao yP zcl fns meths zcj) yT &&
 zjd K (meA K cls "diff_bisectSplit") zL z5 (ze3 zL z5 zas fns meths zav) z7
noncomputable def zpy (G:GS) (cls:Addr) (z:Tz) (H:Tx→Tx→Option HM→Prop):Prop:= ∀(A:Around),Lv A 20→∀t a b (Q:V→Mem→Prop) m,a.length+b.length≤41→a≠[]→b≠[]→TZ (za9 cls) z m t→
 (∀m' r,Gr m m'→H a b r→(∀h,r=some h→HM.ok a b h)→Q (hmV r) m')→zc6 G A (.ref (meA G.K cls "diff_halfMatch")) [.obj t,.str a,.str b] Q m
variable {G:GS}{A:Around}{Q:V→Mem→Prop}{m:Mem}
abbrev DmI (G:GS) (cls:Addr) (H:Tx→Tx→Option HM→Prop) (z:Tz) (j:Nat):Prop:= ∀(A:Around),Lv A (j+101)→∀f vs Q m,DmM cls H z j f vs Q m→zc6 G A (.ref (meA G.K cls f)) vs Q m
theorem zqd (B:Base G (za9 cls)) (ih:DmI G cls H z j) (lv:Lv A (j+101+1)) (env:Env):(pcD cls H z j).run G (A.deeper env):=
 zfq (B.swap rfl rfl rfl) (fun _ _ _ _ _ h=>h.elim) (fun f _ vs Q m hc=>ih _ (lv.deeper env) f vs Q m hc) fun _ _ _ _ h=>h.elim
theorem z29 (B:Base G (za9 cls)) (ih:DmI G cls H z j) (lv:Lv A (j+101+1)) (h1:zqq G.K (meA G.K cls "diff_main") [.bool true,.none] zbq zam (ze3 zbq zam zd2 G.fns G.meths zd5) zai=true)
  (hT:TZ (za9 cls) z m t) (hl:a.length+b.length≤40) (e:4 * (a.length+b.length)+4≤j+1) (q: ∀m' r L,Gr m m'→m r=none→m' r=some (.list (rv L))→MainR H a b L→Q (.obj r) m'):zc6 G A (.ref (meA G.K cls "diff_main")) [.obj t,.str a,.str b,.bool false,dl] Q m:=by
 refine(zle (P:=pcD cls H z j) (c:=3) (j:=2) B.gok B.gbi h1 lv.room (fun env=>(lv.deeper env).rm) (zqd B ih lv) (fun _ h=>h) (fun _ h=>h) rfl rfl (Al _) ?_).toS
 exact zzu (n:=a.length+b.length) (zzg cls H z j) (zp6 (Nat.le_of_succ_le_succ e) hl) zmx hT (Al _) hl q
theorem z23 (B:Base G (za9 cls)) (ih:DmI G cls H z j) (lv:Lv A (j+101+1)) (h2:zjd G.K (meA G.K cls "diff_compute") zad yC (ze3 zad yC zb7 G.fns G.meths zb1) yB=true)
  (hT:TZ (za9 cls) z m t) (hl:a.length+b.length≤40) (e:4 * (a.length+b.length)+3≤j+1) (hne:a≠[]∨b≠[]) (hA:Apart a b) (q: ∀m' r L,Gr m m'→m r=none→m' r=some (.list (rv L))→CompR H a b L→Q (.obj r) m'):zc6 G A (.ref (meA G.K cls "diff_compute")) [.obj t,.str a,.str b,.bool false,dl] Q m:=by
 refine(zbi (P:=pcD cls H z j) B.gok B.gbi h2 lv.room (fun env=>(lv.deeper env).rm) (zqd B ih lv) (fun _ h=>h) (fun _ h=>h) rfl ?_).toS
 have hp:0<a.length+b.length:=hne.elim (fun q=>Nat.add_pos_left (Bl.mpr q) _) fun q=>Nat.add_pos_right _ (Bl.mpr q)
 exact zt1 (n:=a.length+b.length-1) rfl rfl rfl (zq0 (by exact zT 1502821361457153022374066833831908638606376 rfl e (Ab (ze 5193811936278085673 rfl hp))) (by exact zj 55787216685317334406906214093864 rfl hl (Ab (ze 5193811936278085673 rfl hp)))) zxu (fun ha hb=>z00 (Nat.le_of_succ_le_succ e) hl (zvn ha hb hA) ha hb) hT hne (by exact zj 4917205650991320429761579 rfl (Ab (ze 5193811936278085673 rfl hp))) (by exact zj 55787216685317334406906214093864 rfl hl (Ab (ze 5193811936278085673 rfl hp))) q
theorem z6s (B:Base G (za9 cls)) (ih:DmI G cls H z j) (lv:Lv A (j+101+1)) (h3:zjd G.K (meA G.K cls "diff_bisect") zao yP (ze3 zao yP zcl G.fns G.meths zcj) yT=true)
  (hT:TZ (za9 cls) z m t) (hl:a.length+b.length≤40) (e:4 * (a.length+b.length)+2≤j+1) (hd:2≤zw a b) (h4':4≤a.length+b.length) (ha:a≠[]) (hb:b≠[]) (q: ∀m' r L,Gr m m'→m r=none→m' r=some (.list (rv L))→(HNo H a b→zsa a b→CompR H a b L)→Q (.obj r) m'):
  zc6 G A (.ref (meA G.K cls "diff_bisect")) [.obj t,.str a,.str b,dl] Q m:=by
 refine(zbi (P:=pcD cls H z j) B.gok B.gbi h3 lv.room (fun env=>(lv.deeper env).rm) (zqd B ih lv) (fun _ h=>h) (fun _ h=>h) rfl ?_).toS
 have bo:=z5t hd
 refine zxf (P:=pcD cls H z j) rfl rfl hT hd (ntr hl (by decide)) (by unfold zeh;exact zj 11115633220905068558010538728767528 rfl h4' (Nat.lt_div_mul_add (by decide))) (fun e m' r g1 g2 g3=>q m' r _ g1 g2 g3 fun hH hN=>?_) fun u v m' K e' g1 hk=>?_
 ·rw[e] at bo
  exact .none ha hb hN hH e bo
 ·rw[e'] at bo
  obtain⟨x,y,rfl,rfl,hmt⟩:=bo
  exact .split (hT.gr g1) hl (Nat.le_of_succ_le_succ e) hmt fun m'' r L1 L2 g2 hf hr R1 R2=>hk _ _ (q m'' r _ (g1.trans g2) (g1.fresh hf) hr fun hH hN=> .bis hN hH e' hmt R1 R2)
theorem zwv {x y:Nat} (B:Base G (za9 cls)) (ih:DmI G cls H z j) (lv:Lv A (j+101+1)) (h4:zjd G.K (meA G.K cls "diff_bisectSplit") zL z5 (ze3 zL z5 zas G.fns G.meths zav) z7=true)
  (hT:TZ (za9 cls) z m t) (hl:a.length+b.length≤40) (e:4 * (a.length+b.length)+1≤j+1) (hmt:Meet a b x y) (q: ∀m' r L1 L2,Gr m m'→m r=none→m' r=some (.list (rv (L1++L2)))→MainR H (a.take x) (b.take y) L1→MainR H (a.drop x) (b.drop y) L2→Q (.obj r) m'):
  zc6 G A (.ref (meA G.K cls "diff_bisectSplit")) [.obj t,.str a,.str b,.int x,.int y,dl] Q m:=by
 refine(zbi (P:=pcD cls H z j) B.gok B.gbi h4 lv.room (fun env=>(lv.deeper env).rm) (zqd B ih lv) (fun _ h=>h) (fun _ h=>h) rfl ?_).toS
 have lo:=hmt.lo
 have hi:=hmt.hi
 exact z1o (n:=a.length+b.length-1) (zq0 (by exact zT 1502821361457153022374066833830809126978600 rfl e (Ab (zT 14836983365890994607145 rfl hi))) (by exact zj 55787216685317334406906214093864 rfl hl (Ab (zT 14836983365890994607145 rfl hi)))) hT hmt (by exact zj 4917205650991320429761579 rfl (Ab (zT 14836983365890994607145 rfl hi))) (by exact zj 55787216685317334406906214093864 rfl hl (Ab (zT 14836983365890994607145 rfl hi))) q
theorem ztc (B:Base G (za9 cls)) (hc:zkb G.K cls G.fns G.meths=true) (h:zus G.K cls G.fns G.meths=true) (hh:zpy G cls z H) (ih: ∀i,j=i+1→DmI G cls H z i):DmI G cls H z j:=by
 obtain⟨h,h4⟩:=zb h
 obtain⟨h,h3⟩:=zb h
 obtain⟨h1,h2⟩:=zb h
 intro A lv f vs Q m hm
 have su: ∀{n i},n+(i+1)≤j→∃k,j=k+1:=fun {n i} e=>⟨j-1,(Nat.succ_pred_eq_of_pos (Ba (Br _) e)).symm⟩
 have lw: ∀{k},j=k+1→Lv A (k+101+1):=fun e=>lv.less (by subst e;exact Nat.le_of_eq (Nat.add_right_comm _ _ _))
 cases hm with
 | cm hm=>exact zma B hc 100 A (lv.less (Nat.le_add_left _ _)) f vs Q m hm
 | half hl ha hb hT q=>exact hh A (lv.less (ntr (by decide) (Nat.le_add_left _ _))) _ _ _ Q m hl ha hb hT q
 | main hT hl e q=>obtain⟨k,r⟩:=su e;exact z29 B (ih k r) (lw r) h1 hT hl (r▸e) q
 | comp hT hl e hne hA q=>obtain⟨k,r⟩:=su e;exact z23 B (ih k r) (lw r) h2 hT hl (r▸e) hne hA q
 | bis hT hl e hd h4' ha hb q=>obtain⟨k,r⟩:=su e;exact z6s B (ih k r) (lw r) h3 hT hl (r▸e) hd h4' ha hb q
 | split hT hl e hmt q=>obtain⟨k,r⟩:=su e;exact zwv B (ih k r) (lw r) h4 hT hl (r▸e) hmt q
theorem ztu (B:Base G (za9 cls)) (hc:zkb G.K cls G.fns G.meths=true) (h:zus G.K cls G.fns G.meths=true) (hh:zpy G cls z H): ∀(j:Nat),DmI G cls H z j
 | 0=>ztc B hc h hh fun _ e=>nomatch e
 | j+1=>ztc B hc h hh fun i e=>by cases e;exact ztu B hc h hh j
end
section
variable {P:PC}{Q:V→Mem→Prop}{t d:Addr}{a b:Tx}{m:Mem}{r:Row}{z:Tz}
end
section
variable {P:PC}{K:V→St→Prop}{m:Mem}{d:Addr}{R0:Row}{i:Nat}{L:List (Option V)}
theorem zjf {n n':String}{v:V}: ∀{fs:List (Str×V)},yD n' (zn5 n v fs)=if Str.ofString n=Str.ofString n' then some v else yD n' fs
 | []=>by
  unfold zn5 yD
  split<;>rfl
 | (x,u)::r=>by
  unfold zn5
  by_cases q:x=Str.ofString n
  ·rw[if_pos q]
   unfold yD
   rw[q]
   by_cases z:Str.ofString n=Str.ofString n'
   ·rw[if_pos z,if_pos z]
   ·rw[if_neg z,if_neg z,if_neg z]
  ·rw[if_neg q]
   unfold yD
   rw[zjf]
   by_cases z:x=Str.ofString n'
   ·rw[if_pos z,if_pos z,if_neg fun w=>q (z.trans w.symm)]
   ·rw[if_neg z,if_neg z]
end
noncomputable def zl4:List Str:=[]
noncomputable def zjp:List Str:=[]
noncomputable def zh7:List (Str×NameKind):=[]
noncomputable def zh4:List Str:=[]
noncomputable def zb2:List Sm:=[
  .ret (.list [.lit (.str ['a']),.lit (.str ['b']),.lit (.str ['a','b']),.lit (.str ['c']),.lit (.str ['b','a']),.lit (.str ['a','b','c']),.lit (.str ['b','b']),.lit (.str ['c','a','b']),.lit (.str ['a','b','c','a']),.lit (.str ['c','a']),.lit (.str ['b','c','a','b'])])]
noncomputable def zmm:List Str:=["parts","side"]
noncomputable def zkc:List Str:=[]
noncomputable def zi9:List (Str×NameKind):=[]
noncomputable def zjz:List Str:=["side"]
noncomputable def zcr:List Sm:=[
  .ret (.me (.lit (.str [])) .join [.comp (.var 1) false [0,1] (.var 0) [.bor [.cmp (.var 0) [.Eq] [.lit (.int 0)],.cmp (.var 0) [.Eq] [.var 2]]] 2 [1]])]
noncomputable def zkd:List Str:=["parts"]
noncomputable def zh0:List Str:=["place","before","text","behind"]
noncomputable def zhe:List (Str×NameKind):=[("range",.globalImplicit),("len",.globalImplicit)]
noncomputable def zhg:List Str:=[]
noncomputable def ze9:List Sm:=[
  .assign [.tup [2,3,4]] (.tup [.idx (.idx (.var 0) (.bin .Sub (.var 1) (.lit (.int 1)))) (.lit (.int 1)),.idx (.idx (.var 0) (.var 1)) (.lit (.int 1)),.idx (.idx (.var 0) (.bin .Add (.var 1) (.lit (.int 1)))) (.lit (.int 1))]),
  .ife (.bor [.cmp (.slc (.var 3) (.neg (.bi .len [.var 2])) (.lit .none) (.lit .none)) [.Eq] [.var 2],.cmp (.slc (.var 3) (.lit .none) (.bi .len [.var 4]) (.lit .none)) [.Eq] [.var 4]]) [
   .ret (.lit (.bool true))] []]
noncomputable def zcp:List Sm:=[
  .ife (.band [.cmp (.idx (.idx (.var 0) (.bin .Sub (.var 1) (.lit (.int 1)))) (.lit (.int 0))) [.Eq] [.lit (.int 0)],.cmp (.idx (.idx (.var 0) (.bin .Add (.var 1) (.lit (.int 1)))) (.lit (.int 0))) [.Eq] [.lit (.int 0)]]) ze9 []]
noncomputable def zbn:List Sm:=[
  .fr (.var 1) (.bi .range [.lit (.int 1),.bin .Sub (.bi .len [.var 0]) (.lit (.int 1))]) zcp,
  .ret (.lit (.bool false))]
noncomputable def texts:List Tx:=[['a'],['b'],['a','b'],['c'],['b','a'],['a','b','c'],['b','b'],['c','a','b'],['a','b','c','a'],['c','a'],['b','c','a','b']]
section
variable {P:PC}{Q:V→Mem→Prop}{m:Mem}
theorem z2i (h: ∀m' a,Gr m m'→m' a=some (.list (texts.map V.str))→Q (.obj a) m'):zk P zb2 (fun fl σ'=>Q (retV fl) σ'.mem) ⟨([]:List V).map some++List.replicate 0 none,m⟩:=by
 unfold zb2
 refine za fun Q1 _ n1=>?_
 walk_at "D"
 intro a ha
 exact n1 _ _ (h _ _ (.new ha _) (ups _ _ _))
noncomputable def zxd (k:Int) (p:z8):Option V:=if p.1=0∨p.1=k then some (.str p.2) else none
theorem zm4 (k:Int): ∀r:Row,∃xs:List Tx,r.filterMap (zxd k)=xs.map V.str∧xs.flatten=side k r∧xs.length≤r.length
 | []=>⟨[],rfl,rfl,Al _⟩
 | p::r=>by
  obtain⟨xs,a,b,c⟩:=zm4 k r
  by_cases h:p.1=0∨p.1=k
  ·refine⟨p.2::xs,?_,?_,by simp;omega⟩
   ·rw[List.filterMap_cons_some (show zxd k p=some (.str p.2) from if_pos h),a];rfl
   ·rw[List.flatten_cons,b,side,if_pos h]
  ·refine⟨xs,?_,?_,by simp;exact ze 4544286322917928 rfl c⟩
   ·rw[List.filterMap_cons_none (show zxd k p=none from if_neg h),a]
   ·rw[b,side,if_neg h,List.nil_append]
theorem zii (k:Int): ∀r:Row,(side k r).length≤phi r
 | []=>by simp[side]
 | p::r=>by
  rw[side,zd,Aa]
  have:=zii k r
  split<;>simp<;>omega
theorem z4u {d:Addr}{k:Int}{r:Row} (hm:m d=some (.list (rv r))) (hφ:phi r≤1000) (h: ∀m',Gr m m'→Q (.str (side k r)) m'):
  zk P zcr (fun fl σ'=>Q (retV fl) σ'.mem) ⟨[V.obj d,.int k].map some++List.replicate 0 none,m⟩:=by
 have hL:=llp r
 unfold zcr
 refine za fun Q1 _ n1=>?_
 walk_at "D"
 refine⟨trivial,zz8 hm (by exact ze 1231896754496193008760783400 rfl hφ hL) ⟨by rw[zl];unfold sma;exact ze 9949073849436249927004832399912 rfl hφ hL,?_⟩⟩
 refine zc7 (fun σ=> ∃x y,σ=⟨[x,y,some (.int k)],m⟩) pv (zxd k) r [] _ ⟨none,none,rfl⟩ (by rintro _ ⟨x,y,rfl⟩;exact hm) ?_ ?_
 ·rintro ⟨j,t⟩ _ _ ⟨x,y,rfl⟩ K K' h1 h2
  have g1: ¬(j=0∨j=k)→∀σ',(∃x y,σ'=⟨[x,y,some (.int k)],m⟩)→K' σ':=fun q=>h1 (if_neg q)
  have g2:(j=0∨j=k)→∀σ',(∃x y,σ'=⟨[x,y,some (.int k)],m⟩)→K (.str t) σ':=fun q=>h2 _ (if_pos q)
  refine⟨rfl,?_⟩
  walk_at "D"
  by_cases q:j=0
  ·rw[Af q]
   exact g2 (.inl q) _ ⟨_,_,rfl⟩
  ·rw[Ae q]
   by_cases q2:j=k
   ·rw[Af q2]
    exact g2 (.inr q2) _ ⟨_,_,rfl⟩
   ·rw[Ae q2]
    exact g1 (fun z=>z.elim q q2) _ ⟨_,_,rfl⟩
 ·rintro _ ⟨x,y,rfl⟩ a ha
  obtain⟨xs,e1,e2,e3⟩:=zm4 k r
  have:=zii k r
  walk_at "D"
  refine⟨rfl,xs,?_,by exact zj 42082521515510742753343346491686650408 rfl hφ hL e3,by rw[e2];exact ze 5016627491188892143103441371688 rfl hφ this,n1 _ _ ?_⟩
  ·rw[ups,e1]
  ·rw[e2];exact h _ (.new ha _)
end
theorem zmp {x b:Tx} (hb:b≠[]):zcd x (some (-(b.length:Int))) none=b↔zx8 x b:=by
 have h0:0<b.length:=Bl.mpr hb
 by_cases h:b.length≤x.length
 ·rw[zgu h0 h]
  exact⟨fun e=>⟨h,e⟩,fun e=>e.2⟩
 ·constructor
  ·intro e
   have:=zlp x (some (-(b.length:Int))) none
   rw[e] at this
   exact absurd this h
  ·intro e;exact absurd e.1 h
theorem zjo {x c:Tx}:zcd x none (some (c.length:Int))=c↔zj1 x c:=by
 by_cases h:c.length≤x.length
 ·rw[zb4 x h];exact Iff.rfl
 ·have l: ∀y:Tx,y.length≤x.length→y≠c:=fun y q e=>h (e▸q)
  exact⟨fun e=>absurd e (l _ (zlp x _ _)),fun e=>absurd e (l _ (by rw[An];exact ze 4952567644712 rfl (Nat.min_le_right _ _)))⟩
theorem zlc {x:Tx}:zK x 0=x.head? :=by
 cases x with
 | nil=>rfl
 | cons a x=>exact zba (a::x) 0 (by simp)
theorem zs5 (n:Nat) (b:Int) (h:b=n):zq6 1 b 1=(List.range' 1 (n-1)).map fun j:Nat=>V.int j:=by
 subst h;exact zok 1 n
theorem z0v:zq6 1 (-1) 1=[]:=rfl
section
variable {P:PC}{Q:V→Mem→Prop}{m:Mem}
theorem z22 {R:Row}{d:Addr}{A:Row}{a b c:z8}{C:Row}{Q2:Fl→St→Prop}{x2 x3 x4:Option V} (hm:m d=some (.list (rv R))) (h3:At3 R ((A.length+1:Nat):Int) A a b c C) (hA:R.length≤1000) (ha:a.2≠[]) (la:a.2.length≤1000) (lb:b.2.length≤1000) (lc:c.2.length≤1000)
  (no: ¬sc a b c→∀x2 x3 x4,Q2 .next ⟨[some (.obj d),some (.int ((A.length+1:Nat):Int)),x2,x3,x4],m⟩) (yes:sc a b c→∀σ:St,σ.mem=m→Q2 (.ret (.bool true)) σ):
  zk P zcp Q2 ⟨[some (.obj d),some (.int ((A.length+1:Nat):Int)),x2,x3,x4],m⟩:=by
 have sm: ∀{n:Nat},n≤1000→sma n:=fun h=>ntr h (by decide)
 obtain⟨y1,y2,y3⟩:=h3.tin hA
 have g1:=h3.g1
 have g2:=h3.g2
 have g3:=h3.g3
 clear h3 hA
 generalize ((A.length+1:Nat):Int)=p at *
 unfold zcp
 refine ssn (zf fun K kt kf=>?_)
 walk_at "D"
 refine zh hm y1 g1 (yN ?_)
 by_cases h0:a.1=0
 ·refine zax h0 ?_
  refine zh hm y3 g3 (yN ?_)
  by_cases h1:c.1=0
  ·refine zax h1 (kt _ ?_)
   unfold ze9
   refine za fun Q4 n4 r4=>?_
   walk_at "D"
   refine zh hm y1 g1 (z0 (zh hm y2 g2 (z0 (zh hm y3 g3 (z0 ?_)))))
   refine⟨rfl,n4 _ (ssn (zf fun K2 kt2 kf2=>?_))⟩
   have out:sc a b c→K2 true ⟨[some (.obj d),some (.int p),some (.str a.2),some (.str b.2),some (.str c.2)],m⟩:=fun g=>kt2 _ (ssn (by
    walk_at "D"
    exact yes g _ rfl))
   walk_at "D"
   refine⟨sm la,sm lb,?_⟩
   by_cases z1:zx8 b.2 a.2
   ·rw[Af ((zmp ha).mpr z1)]
    exact out ⟨h0,h1,.inl z1⟩
   ·rw[Ae (fun q=>z1 ((zmp ha).mp q))]
    refine⟨sm lc,sm lb,?_⟩
    by_cases z2:zj1 b.2 c.2
    ·rw[Af (zjo.mpr z2)]
     exact out ⟨h0,h1,.inr z2⟩
    ·rw[Ae (fun q=>z2 (zjo.mp q))]
     exact kf2 _ (zc (no (fun q=>q.2.2.elim z1 z2) _ _ _))
  ·exact zcv h1 (kf _ (zc (no (fun q=>h1 q.2.1) _ _ _)))
 ·exact zcv h0 (kf _ (zc (no (fun q=>h0 q.1) _ _ _)))
inductive SlI (d:Addr) (m:Mem) (R:Row) (l:List Nat) (σ:St):Prop
 | mk (A:Row) (a:z8) (rest:Row) (x1 x2 x3 x4:Option V):σ=⟨[some (.obj d),x1,x2,x3,x4],m⟩→R=A++a::rest→l=List.range' (A.length+1) (rest.length-1)→(zkp (a::rest)→zkp R)→SlI d m R l σ
theorem zyp {d:Addr}{r:Row} (hm:m d=some (.list (rv r))) (hφ:phi r≤1000) (hN:NE r) (h: ∀b,(b=true↔¬zkp r)→Q (.bool b) m):
  zk P zbn (fun fl σ'=>Q (retV fl) σ'.mem) ⟨[V.obj d].map some++List.replicate 4 none,m⟩:=by
 have hL:=llp r
 unfold zbn
 refine za fun Q1 n1 r1=>?_
 walk_at "D"
 refine zll hm (by unfold sma;exact ze 9949073849436249927004832399912 rfl hφ hL) ?_
 walk_at "D"
 refine⟨by (first|exact zag (by lia)|(unfold zr;lia)|(unfold zr;grind)),by exact⟨zm 2365632207903183342641 rfl,ze 658276543679564543701897185840097919528 rfl hφ hL⟩,by (first|exact zag (by lia)|(unfold zr;lia)|(unfold zr;grind)),by (first|exact zag (by lia)|(unfold zr;lia)|(unfold zr;grind)),by (first|exact zag (by lia)|(unfold zr;lia)|(unfold zr;grind)),by decide,?_⟩
 have fin:zkp r→∀σ:St,σ.mem=m→Q1 .next σ:=fun hn σ hσ=>n1 _ (ssn (by
  walk_at "D"
  show Q (.bool false) σ.mem
  rw[hσ]
  exact h false ⟨fun q=>(nomatch q),fun q=>absurd hn q⟩))
 cases r with
 | nil=>
  show zdz _ _ _ _ (zq6 1 (-1) 1) _
  rw[z0v]
  exact⟨trivial,fin trivial _ rfl⟩
 | cons a0 r0=>
  rw[zs5 r0.length _ (by rw[List.length_cons];exact Int.add_sub_cancel (r0.length:Int) 1)]
  refine zeo (fun j:Nat=>V.int j) (SlI d m (a0::r0)) (fun _ _ _=>trivial) (fun p l σ i Q2 k1 k2=>?_) (fun σ i=>?_) _ _ ⟨[],a0,r0,none,none,none,none,rfl,rfl,rfl,id⟩
  ·obtain⟨A,a,rest,x1,x2,x3,x4,rfl,hr,hl,hn⟩:=i
   cases rest with
   | nil=>cases hl
   | cons b rest=>cases rest with
    | nil=>cases hl
    | cons c C=>
     replace hl:p::l=List.range' (A.length+1) (C.length+1):=hl
     rw[List.range'_succ] at hl
     cases hl
     have ma:a∈a0::r0:=hr▸List.mem_append_right _ Aq
     have mb:b∈a0::r0:=hr▸List.mem_append_right _ (Ao _ Aq)
     have mc:c∈a0::r0:=hr▸List.mem_append_right _ (Ao _ (Ao _ Aq))
     dsimp only[tg_var,St.set,List.set_cons_succ,List.set_cons_zero]
     refine z22 hm ⟨hr,rfl⟩ (ntr hL hφ) (hN a ma) (ntr (Ax (zbt ma)) hφ) (ntr (Ax (zbt mb)) hφ) (ntr (Ax (zbt mc)) hφ) (fun q x2 x3 x4=>?_) fun g σ hσ=>k2 _ _ (r1 _ _ ?_)
     ·exact k1 _ ⟨A++[a],b,c::C,_,_,_,_,rfl,by rw[hr];exact By _ _ _,by rw[Aa];rfl,fun z=>hn ⟨q,z⟩⟩
     ·show Q (.bool true) σ.mem
      rw[hσ]
      refine h true ⟨fun _ q=>?_,fun _=>rfl⟩
      rw[hr] at q
      exact(zkl q).1 g
  ·obtain⟨A,a,rest,x1,x2,x3,x4,rfl,hr,hl,hn⟩:=i
   refine fin (hn ?_) _ rfl
   cases rest with
   | nil=>trivial
   | cons b rest=>cases rest with
    | nil=>trivial
    | cons c C=>cases hl
end
noncomputable def zl7:List Str:=["parts"]
noncomputable def zj8:List Str:=["kept","gone","come","inside","kind","text","fell","row","place","old","new"]
noncomputable def zh1:List (Str×NameKind):=[("range",.globalImplicit),("len",.globalImplicit)]
noncomputable def zh9:List Str:=[]
noncomputable def zf1:List Sm:=[
  .ife (.var 4) [
   .expr (.me (.var 1) .append [.lit (.str [])])] [],
  .assign [.idx (.var 1) (.neg (.lit (.int 1)))] (.bin .Add (.idx (.var 1) (.neg (.lit (.int 1)))) (.var 6))]
noncomputable def zfx:List Sm:=[
  .expr (.me (.var 2) .append [.lit (.str [])]),
  .expr (.me (.var 3) .append [.lit (.str [])])]
noncomputable def zfs:List Sm:=[
  .ife (.not (.var 4)) zfx [],
  .ife (.cmp (.var 5) [.Eq] [.neg (.lit (.int 1))]) [
   .assign [.idx (.var 2) (.neg (.lit (.int 1)))] (.bin .Add (.idx (.var 2) (.neg (.lit (.int 1)))) (.var 6))] [
   .assign [.idx (.var 3) (.neg (.lit (.int 1)))] (.bin .Add (.idx (.var 3) (.neg (.lit (.int 1)))) (.var 6))]]
noncomputable def za0:List Sm:=[
  .ife (.cmp (.var 5) [.Eq] [.lit (.int 0)]) zf1 zfs,
  .assign [.var 4] (.cmp (.var 5) [.NotEq] [.lit (.int 0)])]
noncomputable def zdp:List Sm:=[
  .assign [.idx (.var 1) (.var 9)] (.bin .Add (.idx (.var 1) (.var 9)) (.idx (.var 10) (.lit (.int 0)))),
  .assign [.tup [10,11]] (.tup [.slc (.var 10) (.lit (.int 1)) (.lit .none) (.lit .none),.slc (.var 11) (.lit (.int 1)) (.lit .none) (.lit .none)])]
noncomputable def zdx:List Sm:=[
  .assign [.idx (.var 1) (.bin .Add (.var 9) (.lit (.int 1)))] (.bin .Add (.idx (.var 10) (.neg (.lit (.int 1)))) (.idx (.var 1) (.bin .Add (.var 9) (.lit (.int 1))))),
  .assign [.tup [10,11]] (.tup [.slc (.var 10) (.lit .none) (.neg (.lit (.int 1))) (.lit .none),.slc (.var 11) (.lit .none) (.neg (.lit (.int 1))) (.lit .none)])]
noncomputable def zat:List Sm:=[
  .assign [.tup [10,11]] (.tup [.idx (.var 2) (.var 9),.idx (.var 3) (.var 9)]),
  .whl (.band [.cmp (.var 10) [.NotEq] [.lit (.str [])],.cmp (.var 11) [.NotEq] [.lit (.str [])],.cmp (.idx (.var 10) (.lit (.int 0))) [.Eq] [.idx (.var 11) (.lit (.int 0))]]) zdp,
  .whl (.band [.cmp (.var 10) [.NotEq] [.lit (.str [])],.cmp (.var 11) [.NotEq] [.lit (.str [])],.cmp (.idx (.var 10) (.neg (.lit (.int 1)))) [.Eq] [.idx (.var 11) (.neg (.lit (.int 1)))]]) zdx,
  .assign [.var 7] (.bor [.var 7,.cmp (.var 10) [.Eq] [.var 11]]),
  .assign [.var 8] (.bin .Add (.var 8) (.list [.tup [.lit (.int 0),.idx (.var 1) (.var 9)],.tup [.neg (.lit (.int 1)),.var 10],.tup [.lit (.int 1),.var 11]]))]
noncomputable def zP:List Sm:=[
  .assign [.tup [1,2,3]] (.tup [.list [.lit (.str [])],.list [],.list []]),
  .assign [.var 4] (.lit (.bool false)),
  .fr (.tup [5,6]) (.var 0) za0,
  .ife (.var 4) [
   .expr (.me (.var 1) .append [.lit (.str [])])] [],
  .assign [.var 7] (.lit (.bool false)),
  .assign [.var 8] (.list []),
  .fr (.var 9) (.bi .range [.bi .len [.var 2]]) zat,
  .expr (.me (.var 8) .append [.tup [.lit (.int 0),.idx (.var 1) (.neg (.lit (.int 1)))]]),
  .ret (.tup [.comp (.var 0) true [0] (.var 8) [.cmp (.idx (.var 0) (.lit (.int 1))) [.NotEq] [.lit (.str [])]] 1 [],.var 7])]
noncomputable def sv (xs:List Tx):List V:=xs.map V.str
theorem zqy (xs:List Tx):(sv xs).length=xs.length:=Ar ..
theorem zm1 (A:List Tx) (x:Tx) (B:List Tx) {k:Int} (h:k=(A.length:Nat)):zK (sv (A++x::B)) k=some (.str x):=by
 unfold sv;rw[zji,zM A x B h];rfl
theorem z5y (A:List Tx) (x:Tx) (B:List Tx) {k:Int} (h:k=(A.length:Nat)):zn4 (sv (A++x::B)).length k=some A.length:=by
 rw[zqy];exact zuc _ _ _ h
theorem zsv (A:List Tx) (x y:Tx) (B:List Tx):(sv (A++x::B)).set A.length (.str y)=sv (A++y::B):=by
 unfold sv
 rw[List.map_append,List.map_append,List.map_cons,List.map_cons]
 have:=zzx (A.map V.str) (V.str x) (V.str y) (B.map V.str)
 rwa [Ar] at this
theorem zt6 (A:List Tx) (x:Tx):zK (sv (A++[x])) (-1)=some (.str x):=by
 unfold sv
 rw[zji,zbu _ (by simp)]
 simp
theorem z52 (A:List Tx) (x:Tx):zn4 (sv (A++[x])).length (-1)=some A.length:=by
 rw[zqy,Aa]
 have e:(-1:Int)+((A.length+1:Nat):Int)=(A.length:Nat):=(Int.add_comm _ _).trans (Int.add_sub_cancel (A.length:Int) 1)
 show(if (decide (0≤(-1:Int)+((A.length+1:Nat):Int))&&decide ((-1:Int)+((A.length+1:Nat):Int)<((A.length+1:Nat):Int)))=true then some ((-1:Int)+((A.length+1:Nat):Int)).toNat else none)=some A.length
 rw[e,Af (Int.natCast_nonneg A.length),Af (Bj.mpr (Cb A.length))];rfl
theorem z5q (A:List Tx) (x:Tx):sv A++[V.str x]=sv (A++[x]):=by unfold sv;simp
section
variable {P:PC}{Q:Fl→St→Prop}{σ:St}
theorem zik {i:Nat}{a:Addr}{t k:Tx}{K:List Tx} (hi:σ.loc[i]? =some (some (.obj a))) (h6:σ.loc[6]? =some (some (.str t))) (hm:σ.mem a=some (.list (sv (K++[k])))) (h1:sma k.length) (h2:sma t.length)
  (h:Q .next ⟨σ.loc,upd σ.mem a (.list (sv (K++[k++t])))⟩):
  wpS P (.assign [.idx (.var i) (.neg (.lit (.int 1)))] (.bin .Add (.idx (.var i) (.neg (.lit (.int 1)))) (.var 6))) Q σ:=by
 have tm:zr (-1):=by unfold zr;exact⟨zqp 2539440226355645489 rfl,zqp 2230327683605105713 rfl⟩
 simp only[r_sassign,r_bin,r_idx,r_neg,r_lit,r_var,r_tgs1,r_tgs0,tg_idx,hi,h6]
 refine⟨tm,_,.str k,hm,zt6 _ _,?_⟩
 refine⟨h1,h2,a,_,_,K.length,rfl,rfl,tm,hm,z52 _ _,?_⟩
 rw[zsv];exact h
theorem zig {i:Nat}{a:Addr}{K:List Tx} (hi:σ.loc[i]? =some (some (.obj a))) (hm:σ.mem a=some (.list (sv K))) (h1:sma K.length)
  (h:Q .next ⟨σ.loc,upd σ.mem a (.list (sv (K++[[]])))⟩):
  wpS P (.expr (.me (.var i) .append [.lit (.str [])])) Q σ:=by
 simp only[r_sexpr,r_me,r_var,r_es1,r_es0,r_lit,hi,ok_app,me_app]
 refine⟨⟨_,hm⟩,_,hm,by rw[zqy];exact h1,?_⟩
 rw[z5q];exact h
end
noncomputable def kL (s:Tx×List Seg):List Tx:=s.1::s.2.map fun x=>x.2.2
noncomputable def gL (s:Tx×List Seg):List Tx:=s.2.map fun x=>x.1
noncomputable def cL (s:Tx×List Seg):List Tx:=s.2.map fun x=>x.2.1
noncomputable def o1 (run:Row) (x:Tx):List Tx:=if run=[] then[] else[x]
theorem zqc (k:Tx) (run:Row):zac k run []=if run=[] then(k,[]) else(k,[(cat (-1) run,cat 1 run,[])]):=by unfold zac;rfl
theorem znr (k t:Tx) (r:Row):zac k [] ((0,t)::r)=zac (k++t) [] r:=by rw[zac,if_pos rfl,if_pos rfl]
theorem zq8 {run:Row} (h:run≠[]) (k t:Tx) (r:Row):zac k run ((0,t)::r)=(k,(cat (-1) run,cat 1 run,(zac t [] r).1)::(zac t [] r).2):=by rw[zac,if_pos rfl,if_neg h]
theorem zng {j:Int} (h:j≠0) (k t:Tx) (run r:Row):zac k run ((j,t)::r)=zac k (run++[(j,t)]) r:=by rw[zac,if_neg h]
structure Three (m0 m:Mem) (a b c:Addr) (K G C:List Tx):Prop where
 gr:Gr m0 m
 na:m0 a=none
 nb:m0 b=none
 nc:m0 c=none
 ab:a≠b
 ac:a≠c
 bc:b≠c
 ha:m a=some (.list (sv K))
 hb:m b=some (.list (sv G))
 hc:m c=some (.list (sv C))
theorem Three.setA {m0 m:Mem}{a b c:Addr}{K G C K':List Tx} (t:Three m0 m a b c K G C):Three m0 (upd m a (.list (sv K'))) a b c K' G C:=
 ⟨t.gr.set t.na _,t.na,t.nb,t.nc,t.ab,t.ac,t.bc,ups _ _ _,by rw[upn _ _ (Ne.symm t.ab)];exact t.hb,by rw[upn _ _ (Ne.symm t.ac)];exact t.hc⟩
theorem Three.setB {m0 m:Mem}{a b c:Addr}{K G C K':List Tx} (t:Three m0 m a b c K G C):Three m0 (upd m b (.list (sv K'))) a b c K K' C:=
 ⟨t.gr.set t.nb _,t.na,t.nb,t.nc,t.ab,t.ac,t.bc,by rw[upn _ _ t.ab];exact t.ha,ups _ _ _,by rw[upn _ _ (Ne.symm t.bc)];exact t.hc⟩
theorem Three.setC {m0 m:Mem}{a b c:Addr}{K G C K':List Tx} (t:Three m0 m a b c K G C):Three m0 (upd m c (.list (sv K'))) a b c K G K':=
 ⟨t.gr.set t.nc _,t.na,t.nb,t.nc,t.ab,t.ac,t.bc,by rw[upn _ _ t.ac];exact t.ha,by rw[upn _ _ t.bc];exact t.hb,ups _ _ _⟩
theorem Three.new {m0 m:Mem}{a b c x:Addr}{K G C:List Tx} (t:Three m0 m a b c K G C) (h:m x=none) (o:O):Three m0 (upd m x o) a b c K G C:=by
 have n: ∀y v,m y=some v→upd m x o y=some v:=fun y v e=>by rw[upn _ _ (fun q=>by subst q;rw[h] at e;cases e)];exact e
 exact⟨fun y v e=>n y v (t.gr y v e),t.na,t.nb,t.nc,t.ab,t.ac,t.bc,n _ _ t.ha,n _ _ t.hb,n _ _ t.hc⟩
section
variable {P:PC}{Q:Fl→St→Prop}{m0 m:Mem}{d a b c:Addr}{x5 x6 x7 x8 x9 x10 x11:Option V}
noncomputable abbrev plS (d a b c:Addr) (ins:Bool) (x5 x6 x7 x8 x9 x10 x11:Option V) (m:Mem):St:=⟨[some (.obj d),some (.obj a),some (.obj b),some (.obj c),some (.bool ins),x5,x6,x7,x8,x9,x10,x11],m⟩
theorem z85 {K0 G0 C0:List Tx}{k t:Tx}{run:Row}{j:Int} (T:Three m0 m a b c (K0++[k]) (G0++o1 run (cat (-1) run)) (C0++o1 run (cat 1 run))) (hj:zwq j) (hk:k.length≤1000) (ht:t.length≤1000) (hr1:(cat (-1) run).length≤1000) (hr2:(cat 1 run).length≤1000)
  (hl:K0.length+1≤1001) (hl2:G0.length≤1000) (hl3:C0.length≤1000)
  (h0:j=0→run=[]→∀m',Three m0 m' a b c (K0++[k++t]) G0 C0→Q .next (plS d a b c false (some (.int j)) (some (.str t)) x7 x8 x9 x10 x11 m'))
  (h1:j=0→run≠[]→∀m',Three m0 m' a b c (K0++[k]++[t]) (G0++[cat (-1) run]) (C0++[cat 1 run])→Q .next (plS d a b c false (some (.int j)) (some (.str t)) x7 x8 x9 x10 x11 m'))
  (h2:j≠0→∀m',Three m0 m' a b c (K0++[k]) (G0++[cat (-1) (run++[(j,t)])]) (C0++[cat 1 (run++[(j,t)])])→Q .next (plS d a b c true (some (.int j)) (some (.str t)) x7 x8 x9 x10 x11 m')):
  zk P za0 Q (plS d a b c (decide (run≠[])) (some (.int j)) (some (.str t)) x7 x8 x9 x10 x11 m):=by
 have sm: ∀{n:Nat},n≤2000→sma n:=fun h=>by unfold sma;exact zm 1186022025138822503727656 rfl h
 unfold za0
 refine ssx fun Q1 n1=>zf fun K kt kf=>?_
 walk_at "D"
 have tail: ∀ins m',Q .next (plS d a b c (!decide (j=0)) (some (.int j)) (some (.str t)) x7 x8 x9 x10 x11 m')→zk P [.assign [.var 4] (.cmp (.var 5) [.NotEq] [.lit (.int 0)])] Q (plS d a b c ins (some (.int j)) (some (.str t)) x7 x8 x9 x10 x11 m'):=fun ins m' q=>by
  refine ssx fun Q2 n2=>?_
  walk_at "D"
  exact n2 _ (zc q)
 by_cases hj0:j=0
 ·rw[Af hj0] at tail ⊢
  refine kt _ ?_
  unfold zf1
  refine ssx fun Q2 n2=>zf fun K2 kt2 kf2=>?_
  walk_at "D"
  by_cases hr:run=[]
  ·rw[Ae (fun q=>q hr)]
   refine kf2 _ (zc (n2 _ (ssx fun Q3 n3=>?_)))
   have T':=T
   rw[hr] at T'
   simp only[o1,if_true,Ag] at T'
   exact zik rfl rfl T'.ha (sm (by exact zm 293562657631123800616 rfl hk)) (sm (by exact zm 293562657631123800616 rfl ht)) (n3 _ (zc (n1 _ (tail _ _ (h0 hj0 hr _ T'.setA)))))
  ·rw[Af hr]
   refine kt2 _ (ssx fun Q3 n3=>?_)
   have T':=T
   simp only[o1,if_neg hr] at T'
   refine zig rfl T'.ha (sm (by simp;exact zm 300442140717607926371368 rfl hl)) (n3 _ (zc (n2 _ (ssx fun Q4 n4=>?_))))
   exact zik rfl rfl (T'.setA (K':=K0++[k]++[[]])).ha (sm (by simp)) (sm (by exact zm 293562657631123800616 rfl ht)) (n4 _ (zc (n1 _ (tail _ _ (h1 hj0 hr _ T'.setA.setA)))))
 ·rw[Ae hj0] at tail ⊢
  refine kf _ ?_
  have s2: ∀m' ins,Three m0 m' a b c (K0++[k]) (G0++[cat (-1) run]) (C0++[cat 1 run])→zk P [.ife (.cmp (.var 5) [.Eq] [.neg (.lit (.int 1))]) [.assign [.idx (.var 2) (.neg (.lit (.int 1)))] (.bin .Add (.idx (.var 2) (.neg (.lit (.int 1)))) (.var 6))] [
    .assign [.idx (.var 3) (.neg (.lit (.int 1)))] (.bin .Add (.idx (.var 3) (.neg (.lit (.int 1)))) (.var 6))]] Q1 (plS d a b c ins (some (.int j)) (some (.str t)) x7 x8 x9 x10 x11 m'):=fun m' ins T'=>by
   refine ssx fun Q3 n3=>zf fun K3 kt3 kf3=>?_
   walk_at "D"
   by_cases hm:j=-1
   ·rw[Af hm]
    refine kt3 _ (ssx fun Q4 n4=>?_)
    refine zik rfl rfl T'.hb (sm (by exact zm 293562657631123800616 rfl hr1)) (sm (by exact zm 293562657631123800616 rfl ht)) (n4 _ (zc (n3 _ (zc (n1 _ (tail _ _ (h2 hj0 _ ?_)))))))
    have z:=T'.setB (K':=G0++[cat (-1) run++t])
    rw[yV,yV,za7,za7,if_pos hm,if_neg (show ¬j=1 by omega),Ag]
    exact z
   ·rw[Ae hm]
    have hp:j=1:=by rcases hj with e | e | e;exact absurd e hm;exact absurd e hj0;exact e
    refine kf3 _ (ssx fun Q4 n4=>?_)
    refine zik rfl rfl T'.hc (sm (by exact zm 293562657631123800616 rfl hr2)) (sm (by exact zm 293562657631123800616 rfl ht)) (n4 _ (zc (n3 _ (zc (n1 _ (tail _ _ (h2 hj0 _ ?_)))))))
    have z:=T'.setC (K':=C0++[cat 1 run++t])
    rw[yV,yV,za7,za7,if_pos hp,if_neg hm,Ag]
    exact z
  unfold zfs
  refine ssx fun Q2 n2=>zf fun K2 kt2 kf2=>?_
  walk_at "D"
  by_cases hr:run=[]
  ·rw[Ae (fun q=>q hr)]
   refine kt2 _ ?_
   have T':=T
   rw[hr] at T'
   simp only[o1,if_true,Ag] at T'
   unfold zfx
   refine ssx fun Q3 n3=>zig rfl T'.hb (sm (by exact zm 293562657631123800616 rfl hl2)) (n3 _ (ssx fun Q4 n4=>zig rfl T'.setB.hc (sm (by exact zm 293562657631123800616 rfl hl3)) (n4 _ (zc (n2 _ (s2 _ _ ?_))))))
   rw[hr]
   exact T'.setB.setC
  ·rw[Af hr]
   have T':=T
   simp only[o1,if_neg hr] at T'
   exact kf2 _ (zc (n2 _ (s2 _ _ T')))
structure W1 (r:Row) (k:Tx) (run:Row) (K0 G0 C0:List Tx) (l:Row):Prop where
 hr:Run run
 hK:zg l
 hb:k.length+zaf run+phi l≤1000
 hl:K0.length+run.length+l.length≤1000
 hg:G0.length=K0.length
 hc:C0.length=K0.length
 s1:K0++kL (zac k run l)=kL (zac [] [] r)
 s2:G0++gL (zac k run l)=gL (zac [] [] r)
 s3:C0++cL (zac k run l)=cL (zac [] [] r)
theorem W1.keep {r l:Row}{k t:Tx}{K0 G0 C0:List Tx} (w:W1 r k [] K0 G0 C0 ((0,t)::l)):W1 r (k++t) [] K0 G0 C0 l:=by
 obtain⟨_,hK,hb,hl,hg,hc,s1,s2,s3⟩:=w
 rw[znr] at s1 s2 s3
 rw[zd] at hb
 rw[List.length_cons] at hl
 refine⟨.nil,hK.tail,?_,Nat.le_of_succ_le hl,hg,hc,s1,s2,s3⟩
 rw[Aa]
 replace hb:k.length+zaf []+(t.length+1+phi l)≤1000:=hb
 exact zT 173374386657800281975500795189621768102952 rfl hb
theorem W1.close {r l run:Row}{k t:Tx}{K0 G0 C0:List Tx} (hrun:run≠[]) (w:W1 r k run K0 G0 C0 ((0,t)::l)):W1 r t [] (K0++[k]) (G0++[cat (-1) run]) (C0++[cat 1 run]) l:=by
 obtain⟨_,hK,hb,hl,hg,hc,s1,s2,s3⟩:=w
 rw[zq8 hrun] at s1 s2 s3
 rw[zd] at hb
 rw[List.length_cons] at hl
 refine⟨.nil,hK.tail,?_,?_,by rw[Aa,Aa,hg];rfl,by rw[Aa,Aa,hc];rfl,(Ah _ _ _).trans s1,(Ah _ _ _).trans s2,(Ah _ _ _).trans s3⟩
 ·show t.length+0+phi l≤1000
  replace hb:k.length+zaf run+(t.length+1+phi l)≤1000:=hb
  exact zT 169310923044739022226289988765680182312 rfl hb
 ·rw[Aa,List.length_singleton,List.length_nil]
  exact zj 169310760773982873043010095259808998440 rfl hl
theorem W1.turn {r l run:Row}{k t:Tx}{j:Int}{K0 G0 C0:List Tx} (hj:j≠0) (w:W1 r k run K0 G0 C0 ((j,t)::l)):W1 r k (run++[(j,t)]) K0 G0 C0 l:=by
 obtain⟨hr,hK,hb,hl,hg,hc,s1,s2,s3⟩:=w
 rw[zng hj] at s1 s2 s3
 rw[zd] at hb
 rw[List.length_cons] at hl
 refine⟨hr.snoc (zib hK.head hj),hK.tail,?_,?_,hg,hc,s1,s2,s3⟩
 ·rw[zdh,show zaf [(j,t)]=t.length from if_neg hj]
  replace hb:k.length+zaf run+(t.length+1+phi l)≤1000:=hb
  exact zT 173374387946039062997085356038172308448296 rfl hb
 ·rw[Aa,List.length_singleton]
  exact zj 169310762043170017987969690437563753512 rfl hl
inductive P1 (r:Row) (m0:Mem) (d a b c:Addr) (x7 x8 x9 x10 x11:Option V) (l:Row) (σ:St):Prop
 | mk (k:Tx) (run:Row) (K0 G0 C0:List Tx) (x5 x6:Option V) (m':Mem):σ=plS d a b c (decide (run≠[])) x5 x6 x7 x8 x9 x10 x11 m'→Three m0 m' a b c (K0++[k]) (G0++o1 run (cat (-1) run)) (C0++o1 run (cat 1 run))→W1 r k run K0 G0 C0 l→P1 r m0 d a b c x7 x8 x9 x10 x11 l σ
theorem zkj {x:Tx}:o1 [] x=[]:=if_pos rfl
theorem zlo {run:Row}{x:Tx} (h:run≠[]):o1 run x=[x]:=if_neg h
theorem z3r {r l:Row}{p:z8}{σ:St} (i:P1 r m0 d a b c x7 x8 x9 x10 x11 (p::l) σ) {Q1:Fl→St→Prop} (k1: ∀σ',P1 r m0 d a b c x7 x8 x9 x10 x11 l σ'→Q1 .next σ'):zi6 P (.tup [5,6]) (pv p) (zk P za0 Q1) σ:=by
 obtain⟨k,run,K0,G0,C0,y5,y6,m',rfl,T,w⟩:=i
 obtain⟨j,t⟩:=p
 refine⟨rfl,?_⟩
 dsimp only[St.set,St.setAll,List.set_cons_succ,List.set_cons_zero]
 have tr:=zet w.hr
 have hb:=w.hb
 have hl:=w.hl
 have hg:=w.hg
 have hc:=w.hc
 rw[zd] at hb
 rw[List.length_cons] at hl
 replace hb:k.length+zaf run+(t.length+1+phi l)≤1000:=hb
 refine z85 T w.hK.head (by exact zT 161467016667203340337614954734632 rfl hb) (by exact zT 161467326152213161682683679515688 rfl hb) (by exact zn7 1386991111936650602440002775256443161941035 rfl tr hb) (by exact zn7 1386992441164646387355875679063503442285611 rfl tr hb) (by exact zj 161486957178169480596109060514856 rfl hl) (by exact zT 1322741603453925243983538372590216232 rfl hl hg) (by exact zT 1322741603453925243983538372590216232 rfl hl hc) (fun hj hrun m'' T'=>?_) (fun hj hrun m'' T'=>?_) (fun hj m'' T'=>?_)
 ·subst hj;subst hrun
  exact k1 _ ⟨k++t,[],K0,G0,C0,_,_,m'',rfl,by rw[zkj,zkj,Ag,Ag];exact T',w.keep⟩
 ·subst hj
  exact k1 _ ⟨t,[],K0++[k],G0++[cat (-1) run],C0++[cat 1 run],_,_,m'',rfl,by rw[zkj,zkj,Ag,Ag];exact T',w.close hrun⟩
 ·have ne:run++[(j,t)]≠[]:=fun q=>by have:=congrArg List.length q;rw[Aa] at this;exact absurd this (Nat.succ_ne_zero _)
  exact k1 _ ⟨k,run++[(j,t)],K0,G0,C0,some (.int j),some (.str t),m'',by rw[Af ne],by rw[zlo ne,zlo ne];exact T',w.turn hj⟩
theorem zxs {r:Row} (hm:m d=some (.list (rv r))) (hK:zg r) (hφ:phi r≤1000) (hd:m0 d=some (.list (rv r))) (T:Three m0 m a b c [[]] [] [])
  (h: ∀m' x5 x6 ins K,Three m0 m' a b c K (gL (zac [] [] r)) (cL (zac [] [] r))→(ins=true→K++[[]]=kL (zac [] [] r))→(ins=false→K=kL (zac [] [] r))→Q .next (plS d a b c ins x5 x6 x7 x8 x9 x10 x11 m')):
  wpS P (.fr (.tup [5,6]) (.var 0) za0) Q (plS d a b c false x5 x6 x7 x8 x9 x10 x11 m):=by
 have hL:=llp r
 walk_at "D"
 refine zz8 hm (by exact ze 1231896754496193008760783400 rfl hφ hL) ?_
 refine zeo pv (P1 r m0 d a b c x7 x8 x9 x10 x11) (fun l σ i=>?_) (fun p l σ i Q1 k1 _=>z3r i k1) (fun σ i=>?_) r _ ⟨[],[],[],[],[],x5,x6,m,rfl,T,.nil,hK,by show 0+0+phi r≤1000;exact zm 153986944720476052605895208 rfl hφ,by show 0+0+r.length≤1000;exact ze 1291737354317782430637136650699304 rfl hφ hL,rfl,rfl,rfl,rfl,rfl⟩
 ·obtain⟨k,run,K0,G0,C0,x5,x6,m',rfl,T,_⟩:=i
  exact T.gr _ _ hd
 ·obtain⟨k,run,K0,G0,C0,y5,y6,m',rfl,T,w⟩:=i
  obtain⟨_,_,_,_,_,_,s1,s2,s3⟩:=w
  rw[zqc] at s1 s2 s3
  by_cases hrun:run=[]
  ·subst hrun
   rw[if_pos rfl] at s1 s2 s3
   rw[zkj,zkj,Ag,Ag] at T
   refine h m' y5 y6 _ _ ?_ (fun q=>nomatch q) (fun _=>s1)
   rw[←s2,←s3]
   exact(Ag G0).symm▸(Ag C0).symm▸T
  ·rw[if_neg hrun] at s1 s2 s3
   rw[zlo hrun,zlo hrun] at T
   refine h m' y5 y6 _ _ (by rw[←s2,←s3];exact T) (fun _=>?_) (fun q=>absurd q (by rw[Af hrun];exact fun q=>nomatch q))
   rw[←s1,Ah];rfl
end
theorem zyr {P:PC}{c:Ex}{b:List Sm}{Q:Fl→St→Prop}{σ:St} (I:Nat→St→Prop) (i: ∃n,I n σ) (step: ∀n σ',I n σ'→∀(K:Bool→St→Prop) (Q1:Fl→St→Prop),(∀σ₂,zk P b Q1 σ₂→K true σ₂)→(∀k σ₂,k<n→I k σ₂→Q1 .next σ₂)→(∀σ₂,Q .next σ₂→K false σ₂)→wpT P c (wpE P c) K σ'):wpS P (.whl c b) Q σ:=
 ⟨I,i,fun n σ' h=>step n σ' h _ _ (fun _ q=>q) (fun k _ hk hi=>⟨k,hk,hi⟩) fun _ q=>q⟩
theorem zob (a b:Tx): ∀c:Tx,lcp (c++a) (c++b)=c.length+lcp a b
 | []=>by simp
 | x::c=>by rw[List.cons_append,List.cons_append,lcp,if_pos rfl,zob a b c,List.length_cons];exact Ai (ze 653027585298572344 rfl) (ze 581532941746742328 rfl)
theorem z3n (a b c:Tx):lcs (a++c) (b++c)=c.length+lcs a b:=by
 unfold lcs
 rw[List.reverse_append,List.reverse_append,zob,Ak]
theorem ztw {o n c x y:Tx} (ho:o=c++x) (hn:n=c++y) (h:lcp y x=0):pre o n=c∧mo o n=x∧mn o n=y:=by
 have e:lcp n o=c.length:=by rw[ho,hn,zob,h,Nat.add_zero]
 unfold pre mo mn
 rw[e,ho,hn]
 exact⟨List.take_left' rfl,List.drop_left' rfl,List.drop_left' rfl⟩
theorem zt2 {o n c x y:Tx} (ho:mo o n=x++c) (hn:mn o n=y++c) (h:lcs y x=0):su o n=c∧ro o n=x∧rn o n=y:=by
 have e:ms o n=c.length:=by unfold ms;rw[ho,hn,z3n,h,Nat.add_zero]
 unfold su ro rn
 rw[e,ho,hn]
 refine⟨?_,?_,?_⟩
 ·exact List.drop_left' (by simp)
 ·exact List.take_left' (by simp)
 ·exact List.take_left' (by simp)
theorem zwr {m:Mem}{a b:Addr}{Q:V→Mem→Prop}:zge m .Add (.obj a) (.obj b) Q=(∃xs ys,m a=some (.list xs)∧m b=some (.list ys)∧sma xs.length∧sma ys.length∧∀c,m c=none→Q (.obj c) (upd m c (.list (xs++ys)))):=rfl
theorem Three.ext {m0 m m':Mem}{a b c:Addr}{K G C K':List Tx} (t:Three m0 m a b c K G C) (x:Ext a m m') (h:m' a=some (.list (sv K'))):Three m0 m' a b c K' G C:=
 ⟨fun y v e=>x y v (fun q=>by subst q;rw[t.na] at e;cases e) (t.gr y v e),t.na,t.nb,t.nc,t.ab,t.ac,t.bc,h,x b _ (Ne.symm t.ab) t.hb,x c _ (Ne.symm t.ac) t.hc⟩
section
variable {P:PC}{Q:Fl→St→Prop}{m:Mem}{a:Addr}{x0 x2 x3 x4 x5 x6 x7 x8:Option V}
noncomputable abbrev pmS (x0:Option V) (a:Addr) (x2 x3 x4 x5 x6 x7 x8:Option V) (p:Int) (old new:Tx) (m:Mem):St:=⟨[x0,some (.obj a),x2,x3,x4,x5,x6,x7,x8,some (.int p),some (.str old),some (.str new)],m⟩
inductive Pw1 (x0:Option V) (a:Addr) (x2 x3 x4 x5 x6 x7 x8:Option V) (p:Int) (m:Mem) (KA KR:List Tx) (k o n:Tx) (z:Nat) (σ:St):Prop
 | mk (c old new:Tx) (m':Mem):σ=pmS x0 a x2 x3 x4 x5 x6 x7 x8 p old new m'→z=old.length→o=c++old→n=c++new→m' a=some (.list (sv (KA++(k++c)::KR)))→Ext a m m'→Pw1 x0 a x2 x3 x4 x5 x6 x7 x8 p m KA KR k o n z σ
theorem z8r {KA KR:List Tx}{k o n:Tx}{p:Int} (hm:m a=some (.list (sv (KA++k::KR)))) (hp:p=(KA.length:Nat)) (h1:k.length+o.length≤1000) (h2:n.length≤1000) (h3:KA.length≤1000)
  (h: ∀m',m' a=some (.list (sv (KA++(k++pre o n)::KR)))→Ext a m m'→Q .next (pmS x0 a x2 x3 x4 x5 x6 x7 x8 p (mo o n) (mn o n) m')):
  wpS P (.whl (.band [.cmp (.var 10) [.NotEq] [.lit (.str [])],.cmp (.var 11) [.NotEq] [.lit (.str [])],.cmp (.idx (.var 10) (.lit (.int 0))) [.Eq] [.idx (.var 11) (.lit (.int 0))]]) zdp) Q (pmS x0 a x2 x3 x4 x5 x6 x7 x8 p o n m):=by
 have t0:zr 0:=by (first|exact zag (by lia)|(unfold zr;lia)|(unfold zr;grind))
 have tp:zr p:=by subst hp;exact zag (zm 1186022025138818233926184 rfl h3)
 refine zyr (Pw1 x0 a x2 x3 x4 x5 x6 x7 x8 p m KA KR k o n) ⟨_,[],o,n,m,rfl,rfl,rfl,rfl,by rw[Ag];exact hm,.refl _ _⟩ ?_
 rintro z _ ⟨c,old,new,m',rfl,rfl,ho,hn,hm',hx⟩ K Q1 kt k1 kf
 have exit:lcp new old=0→K false (pmS x0 a x2 x3 x4 x5 x6 x7 x8 p old new m'):=fun q=>by
  obtain⟨e1,e2,e3⟩:=ztw ho hn q
  have:=h m' (by rw[e1];exact hm') hx
  rw[e2,e3] at this
  exact kf _ this
 clear h hm kf
 walk_at "D"
 cases old with
 | nil=>exact exit (zf3 _)
 | cons x old=>
  cases new with
  | nil=>exact exit (zf2 _)
  | cons y new=>
   rw[Ae (List.cons_ne_nil x old),Ae (List.cons_ne_nil y new)]
   refine⟨t0,x,zlc,t0,y,zlc,?_⟩
   by_cases q:x=y
   ·subst q
    rw[Af rfl]
    refine kt _ ?_
    clear exit kt
    have lo:=congrArg List.length ho
    have ln:=congrArg List.length hn
    rw[Aa,List.length_cons] at lo ln
    unfold zdp
    refine ssx fun Q2 n2=>?_
    walk_at "D"
    refine⟨tp,_,.str (k++c),hm',zm1 _ _ _ hp,t0,x,zlc,?_⟩
    refine⟨by rw[Aa];unfold sma;exact zT 10939122384339211868257847461709894077912104 rfl h1 lo,(by unfold sma;exact(by decide:1≤1000000)),a,_,_,KA.length,rfl,rfl,tp,hm',z5y _ _ _ hp,n2 _ ?_⟩
    rw[zsv,Ah]
    refine ssn ?_
    walk_at "D"
    have e1: ∀u:Tx,zcd (x::u) (some 1) none=u:=fun u=>zQ (x::u) (a:=1) (Be (Bq _))
    rw[e1,e1]
    exact⟨by unfold sma;exact zT 10939122382909301991200404696821612862247976 rfl h1 lo,by unfold sma;exact zj 10682736702049961686576742190657568768552 rfl h2 ln,rfl,k1 old.length _ (Cb _) ⟨c++[x],old,new,_,rfl,rfl,by rw[ho,By],by rw[hn,By],ups _ _ _,hx.trans (.upd _ _ _)⟩⟩
   ·rw[Ae (show ¬[x]=[y] from fun z=>q (List.head_eq_of_cons_eq z))]
    exact exit (if_neg (Ne.symm q))
inductive Pw2 (x0:Option V) (a:Addr) (x2 x3 x4 x5 x6 x7 x8:Option V) (p:Int) (m:Mem) (KA KR:List Tx) (k k' o n:Tx) (z:Nat) (σ:St):Prop
 | mk (c old new:Tx) (m':Mem):σ=pmS x0 a x2 x3 x4 x5 x6 x7 x8 p old new m'→z=old.length→o=old++c→n=new++c→m' a=some (.list (sv (KA++k::(c++k')::KR)))→Ext a m m'→Pw2 x0 a x2 x3 x4 x5 x6 x7 x8 p m KA KR k k' o n z σ
theorem zl3 {u:Tx}{v:Char}:zK (u++[v]) (-1)=some v:=by
 rw[zbu _ (by rw[Aa];exact Br _),Aa,List.length_singleton,Nat.add_sub_cancel,Bf (Al _),Nat.sub_self];rfl
theorem zx1 {u v:Tx}{x y:Char} (h:x≠y):lcs (u++[x]) (v++[y])=0:=by
 unfold lcs
 rw[List.reverse_append,List.reverse_append]
 exact if_neg h
theorem z8n {KA KR:List Tx}{k k' o n:Tx}{p:Int} (hm:m a=some (.list (sv (KA++k::k'::KR)))) (hp:p=(KA.length:Nat)) (h1:k'.length+(mo o n).length≤1000) (h2:(mn o n).length≤1000) (h3:KA.length≤1000)
  (h: ∀m',m' a=some (.list (sv (KA++k::(su o n++k')::KR)))→Ext a m m'→Q .next (pmS x0 a x2 x3 x4 x5 x6 x7 x8 p (ro o n) (rn o n) m')):
  wpS P (.whl (.band [.cmp (.var 10) [.NotEq] [.lit (.str [])],.cmp (.var 11) [.NotEq] [.lit (.str [])],.cmp (.idx (.var 10) (.neg (.lit (.int 1)))) [.Eq] [.idx (.var 11) (.neg (.lit (.int 1)))]]) zdx) Q (pmS x0 a x2 x3 x4 x5 x6 x7 x8 p (mo o n) (mn o n) m):=by
 have tm:zr (-1):=by (first|exact zag (by lia)|(unfold zr;lia)|(unfold zr;grind))
 have tp:zr (p+1):=by subst hp;exact zag (zm 1214486553866453809977360936 rfl h3)
 refine zyr (Pw2 x0 a x2 x3 x4 x5 x6 x7 x8 p m KA KR k k' (mo o n) (mn o n)) ⟨_,[],_,_,m,rfl,rfl,(Ag _).symm,(Ag _).symm,hm,.refl _ _⟩ ?_
 rintro z _ ⟨c,old,new,m',rfl,rfl,ho,hn,hm',hx⟩ K Q1 kt k1 kf
 have exit:lcs new old=0→K false (pmS x0 a x2 x3 x4 x5 x6 x7 x8 p old new m'):=fun q=>by
  obtain⟨e1,e2,e3⟩:=zt2 ho hn q
  have:=h m' (by rw[e1];exact hm') hx
  rw[e2,e3] at this
  exact kf _ this
 clear h hm kf
 generalize mo o n=oo at *
 generalize mn o n=nn at *
 have nil: ∀{as:Tx} {x:Char},as++[x]≠[]:=fun {as x} q=>by have:=congrArg List.length q;rw[Aa] at this;exact absurd this (Nat.succ_ne_zero _)
 walk_at "D"
 rcases List.eq_nil_or_concat old with rfl | ⟨oA,x,rfl⟩
 ·exact exit (by unfold lcs;exact zf3 _)
 rcases List.eq_nil_or_concat new with rfl | ⟨nA,y,rfl⟩
 ·rw[List.concat_eq_append,Ae nil]
  rw[List.concat_eq_append] at exit
  exact exit (by unfold lcs;exact zf2 _)
 rw[List.concat_eq_append,List.concat_eq_append] at *
 rw[Ae nil,Ae nil]
 refine⟨tm,x,zl3,tm,y,zl3,?_⟩
 by_cases q:x=y
 ·subst q
  rw[Af rfl]
  refine kt _ ?_
  clear exit kt
  have lo:=congrArg List.length ho
  have ln:=congrArg List.length hn
  rw[Aa,Aa,List.length_singleton] at lo ln
  have e0: ∀w:Tx,KA++k::w::KR=(KA++[k])++w::KR:=fun w=>By _ _ _
  rw[e0] at hm'
  have hp1:p+1=((KA++[k]).length:Nat):=by rw[hp,Aa];rfl
  unfold zdx
  refine ssx fun Q2 n2=>?_
  walk_at "D"
  refine⟨tm,x,zl3,tp,_,.str (c++k'),hm',zm1 _ _ _ hp1,?_⟩
  refine⟨(by unfold sma;exact(by decide:1≤1000000)),by rw[Aa];unfold sma;exact zT 10939122381773487053714503861171287925199912 rfl h1 lo,a,_,_,(KA++[k]).length,rfl,rfl,tp,hm',z5y _ _ _ hp1,n2 _ ?_⟩
  rw[zsv,←e0]
  refine ssn ?_
  walk_at "D"
  have e1: ∀u:Tx,zcd (u++[x]) none (some (-1))=u:=fun u=>(ze0 (x:=u++[x]) (k:=1) (Br _) (by rw[Aa];exact Be (Bq _))).trans (List.take_left' (by rw[Aa];rfl))
  rw[e1,e1]
  exact⟨by rw[Aa,List.length_singleton];unfold sma;exact zT 10939122382899160786717171569700360371573800 rfl h1 lo,by rw[Aa,List.length_singleton];unfold sma;exact zj 10682736702040058166427155927568803168808 rfl h2 ln,rfl,k1 oA.length _ (by rw[Aa];exact Cb _) ⟨x::c,oA,nA,_,rfl,rfl,by rw[ho,Ah];rfl,by rw[hn,Ah];rfl,ups _ _ _,hx.trans (.upd _ _ _)⟩⟩
 ·rw[Ae (show ¬[x]=[y] from fun z=>q (List.head_eq_of_cons_eq z))]
  exact exit (zx1 (Ne.symm q))
end
section
variable {P:PC}{Q:Fl→St→Prop}{m0 m:Mem}{d a b c a8:Addr}{ins fl:Bool}{x5 x6 x10 x11:Option V}
noncomputable abbrev plT (d a b c:Addr) (ins:Bool) (x5 x6:Option V) (fl:Bool) (a8:Addr) (x9 x10 x11:Option V) (m:Mem):St:=
 ⟨[some (.obj d),some (.obj a),some (.obj b),some (.obj c),some (.bool ins),x5,x6,some (.bool fl),some (.obj a8),x9,x10,x11],m⟩
structure RowAt (m0 m:Mem) (a b c a8:Addr) (R:Row):Prop where
 h:m a8=some (.list (rv R))
 n:m0 a8=none
 na:a8≠a
 nb:a8≠b
 nc:a8≠c
theorem RowAt.ext {m':Mem}{R:Row} (r:RowAt m0 m a b c a8 R) (x:Ext a m m'):RowAt m0 m' a b c a8 R:=⟨x _ _ r.na r.h,r.n,r.na,r.nb,r.nc⟩
theorem z8y {KA KR GA GR CA CR:List Tx}{k k' o n:Tx}{R:Row}{p:Int} (T:Three m0 m a b c (KA++k::k'::KR) (GA++o::GR) (CA++n::CR)) (hR:RowAt m0 m a b c a8 R) (hp:p=(KA.length:Nat)) (hp2:p=(GA.length:Nat)) (hp3:p=(CA.length:Nat))
  (h1:k.length+o.length≤1000) (h2:n.length≤1000) (h3:KA.length≤1000) (h4:k'.length+o.length≤1000) (h5:R.length≤3000)
  (h: ∀m' a8',Three m0 m' a b c (KA++(k++pre o n)::(su o n++k')::KR) (GA++o::GR) (CA++n::CR)→RowAt m0 m' a b c a8' (R++[(0,k++pre o n),(-1,ro o n),(1,rn o n)])→
   Q .next (plT d a b c ins x5 x6 (fl||decide (ro o n=rn o n)) a8' (some (.int p)) (some (.str (ro o n))) (some (.str (rn o n))) m')):
  zk P zat Q (plT d a b c ins x5 x6 fl a8 (some (.int p)) x10 x11 m):=by
 have tp:zr p:=by unfold zr;exact⟨zbr 3587185679811402644594211 rfl hp,zbr 642848187187066507313730381436355106 rfl hp h3⟩
 unfold zat
 refine ssx fun Q1 n1=>?_
 walk_at "D"
 refine⟨tp,_,_,T.hb,zm1 _ _ _ hp2,tp,_,_,T.hc,zm1 _ _ _ hp3,rfl,n1 _ (ssx fun Q2 n2=>?_)⟩
 have so:=congrArg List.length (zlj o n)
 refine z8r T.ha hp h1 h2 h3 fun m1 g1 x1=>n2 _ (ssx fun Q3 n3=>?_)
 have T1:=T.ext x1 g1
 have R1:=hR.ext x1
 refine z8n g1 hp ?_ ?_ h3 fun m2 g2 x2=>n3 _ (ssx fun Q4 n4=>?_)
 ·unfold mo;rw[Ap];exact zj 1291738593782855859010163997938728 rfl h4 (Nat.sub_le _ _)
 ·unfold mn;rw[Ap];exact ze 1231896754496193008760783400 rfl h2 (Nat.sub_le _ _)
 have T2:=T1.ext x2 g2
 have R2:=R1.ext x2
 walk_at "D"
 have fe: ∀X:Bool→Prop,X (fl||decide (ro o n=rn o n))→(if fl=false then X (decide (ro o n=rn o n)) else X fl):=fun X q=>by
  cases fl
  ·exact q
  ·exact q
 refine fe (fun z=>Q4 .next (plT d a b c ins x5 x6 z a8 (some (.int p)) (some (.str (ro o n))) (some (.str (rn o n))) m2)) (n4 _ (ssx fun Q5 n5=>?_))
 walk_at "D"
 refine⟨tp,_,_,g2,zm1 _ _ _ hp,fun y hy=>?_⟩
 rw[zwr]
 have hne:a8≠y:=fun q=>by subst q;rw[R2.h] at hy;cases hy
 refine⟨rv R,_,by rw[upn _ _ hne];exact R2.h,ups _ _ _,by rw[zl];unfold sma;exact zm 1186022025138826706420264 rfl h5,by unfold sma;simp,fun w hw=>n5 _ (zc ?_)⟩
 have T3:=T2.new hy (.list [.tup [.int 0,.str (k++pre o n)],.tup [.int (-1),.str (ro o n)],.tup [.int 1,.str (rn o n)]])
 have T4:=T3.new hw (.list (rv R++[.tup [.int 0,.str (k++pre o n)],.tup [.int (-1),.str (ro o n)],.tup [.int 1,.str (rn o n)]]))
 refine h _ w T4 ⟨?_,?_,?_,?_,?_⟩
 ·rw[ups,zN];rfl
 ·cases q:m0 w with
  | none=>rfl
  | some v=>rw[T3.gr _ _ q] at hw;cases hw
 ·intro q;subst q;rw[T3.ha] at hw;cases hw
 ·intro q;subst q;rw[T3.hb] at hw;cases hw
 ·intro q;subst q;rw[T3.hc] at hw;cases hw
noncomputable def wa:List Seg→Nat
 | []=>0
 | (o,n,k)::l=>o.length+n.length+k.length+wa l
structure W2 (k:Tx) (ls:List Seg) (KA:List Tx) (kz:Tx) (l':List Seg) (GA CA:List Tx) (R:Row) (f:Bool):Prop where
 eg:GA.length=KA.length
 ec:CA.length=KA.length
 s1:GA++gL (kz,l')=gL (k,ls)
 s2:CA++cL (kz,l')=cL (k,ls)
 b1:R.length≤3 * KA.length
 b2:KA.length+l'.length≤900
 b3:kz.length+wa l'≤1000
 s3:R++(zE kz l').1=(zE k ls).1
 s4:(f||(zE kz l').2)=(zE k ls).2
theorem W2.step {k:Tx}{ls:List Seg}{KA:List Tx}{kz o n k':Tx}{l':List Seg}{GA CA:List Tx}{R:Row}{f:Bool} (w:W2 k ls KA kz ((o,n,k')::l') GA CA R f):
  W2 k ls (KA++[kz++pre o n]) (su o n++k') l' (GA++[o]) (CA++[n]) (R++[(0,kz++pre o n),(-1,ro o n),(1,rn o n)]) (f||decide (ro o n=rn o n)):=by
 obtain⟨eg,ec,s1,s2,b1,b2,b3,s3,s4⟩:=w
 have so:=congrArg List.length (zlj o n)
 rw[Aa,Aa] at so
 rw[List.length_cons] at b2
 replace b3:kz.length+(o.length+n.length+k'.length+wa l')≤1000:=b3
 have pg:zE kz ((o,n,k')::l')=((0,kz++pre o n)::(-1,ro o n)::(1,rn o n)::(zE (su o n++k') l').1,decide (ro o n=rn o n)||(zE (su o n++k') l').2):=by rw[zE]
 rw[pg] at s3 s4
 have lk:(KA++[kz++pre o n]).length=KA.length+1:=by rw[Aa];rfl
 refine⟨by rw[Aa,lk,eg];rfl,by rw[Aa,lk,ec];rfl,(Ah _ _ _).trans s1,(Ah _ _ _).trans s2,?_,by rw[lk];exact ze 154891233011145279042380798891048 rfl b2,by rw[Aa];exact zwl 1489280406064227573548795645513969028877763664192554 rfl so b3,(Ah _ _ _).trans s3,(Bool.or_assoc _ _ _).trans s4⟩
 rw[lk,Aa]
 rw[Nat.mul_succ]
 exact Nat.add_le_add_right b1 3
inductive P2 (k:Tx) (ls:List Seg) (m0:Mem) (d a b c:Addr) (ins:Bool) (x5 x6:Option V) (rest:List Nat) (σ:St):Prop
 | mk (KA:List Tx) (kz:Tx) (l':List Seg) (GA CA:List Tx) (R:Row) (f:Bool) (a8:Addr) (y9 y10 y11:Option V) (m':Mem):σ=plT d a b c ins x5 x6 f a8 y9 y10 y11 m'→rest=List.range' KA.length l'.length→Three m0 m' a b c (KA++kL (kz,l')) (GA++gL (kz,l')) (CA++cL (kz,l'))→RowAt m0 m' a b c a8 R→W2 k ls KA kz l' GA CA R f→P2 k ls m0 d a b c ins x5 x6 rest σ
theorem zxr {k:Tx}{ls:List Seg}{p:Nat}{l:List Nat}{σ:St} (i:P2 k ls m0 d a b c ins x5 x6 (p::l) σ) {Q1:Fl→St→Prop} (k1: ∀σ',P2 k ls m0 d a b c ins x5 x6 l σ'→Q1 .next σ'):zi6 P (.var 9) (.int p) (zk P zat Q1) σ:=by
 obtain⟨KA,kz,l',GA,CA,R,f,a8,y9,y10,y11,m',rfl,hl',T',R',w⟩:=i
 cases l' with
 | nil=>cases hl'
 | cons sg l'=>
  obtain⟨o,n,k'⟩:=sg
  rw[List.length_cons,List.range'_succ] at hl'
  cases hl'
  have b1:=w.b1
  have b2:=w.b2
  have b3:=w.b3
  rw[List.length_cons] at b2
  replace b3:kz.length+(o.length+n.length+k'.length+wa l')≤1000:=b3
  dsimp only[tg_var,St.set,List.set_cons_succ,List.set_cons_zero]
  refine z8y (KA:=KA) (KR:=l'.map fun x=>x.2.2) (GA:=GA) (GR:=l'.map fun x=>x.1) (CA:=CA) (CR:=l'.map fun x=>x.2.1) (k:=kz) (k':=k') (o:=o) (n:=n) T' R' rfl (by rw[w.eg]) (by rw[w.ec]) (by exact zd8 165342381547882525040184510708192296 rfl b3) (by exact zd8 161467326152213166261042888578088 rfl b3) (by exact ze 153986946742069192698106920 rfl b2) (by exact zd8 165342385261702642896325335405564968 rfl b3) (by exact zj 493105964262031226588924436597703208 rfl b1 b2) fun m'' a8' T'' R''=>k1 _ ?_
  have e: ∀(X Y:List Tx) (x:Tx),X++[x]++Y=X++x::Y:=fun X Y x=>Ah X [x] Y
  refine⟨KA++[kz++pre o n],su o n++k',l',GA++[o],CA++[n],_,_,a8',_,_,_,m'',rfl,by rw[Aa];rfl,?_,R'',w.step⟩
  rw[e,e,e]
  exact T''
theorem zxk {k:Tx}{ls:List Seg}{x9:Option V} (T:Three m0 m a b c (kL (k,ls)) (gL (k,ls)) (cL (k,ls))) (hR:RowAt m0 m a b c a8 []) (hw:k.length+wa ls≤1000) (hl:ls.length≤900)
  (h: ∀m' a8' x9 x10 x11 KA kz R,Three m0 m' a b c (KA++[kz]) (gL (k,ls)) (cL (k,ls))→RowAt m0 m' a b c a8' R→R.length≤3000→R++[(0,kz)]=(zE k ls).1→KA.length≤1000→Q .next (plT d a b c ins x5 x6 (zE k ls).2 a8' x9 x10 x11 m')):
  wpS P (.fr (.var 9) (.bi .range [.bi .len [.var 2]]) zat) Q (plT d a b c ins x5 x6 false a8 x9 x10 x11 m):=by
 have gl:(sv (gL (k,ls))).length=ls.length:=by rw[zqy];exact Ar _
 walk_at "D"
 rw[zdg]
 refine⟨_,.inl T.hb,by rw[gl];unfold sma;exact zm 1186022025138818059862568 rfl hl,?_⟩
 rw[gl]
 walk_at "D"
 refine⟨by exact zag (zm 1186022025138818059862568 rfl hl),by (first|exact zag (by lia)|(unfold zr;lia)|(unfold zr;grind)),by exact zag (zm 1186022025138818059862568 rfl hl),by (first|exact zag (by lia)|(unfold zr;lia)|(unfold zr;grind)),by decide,?_⟩
 rw[show zq6 0 (ls.length:Int) 1=_ from zok 0 ls.length]
 refine zeo (fun j:Nat=>V.int j) (P2 k ls m0 d a b c ins x5 x6) (fun _ _ _=>trivial) (fun p l σ i Q1 k1 _=>zxr i k1) (fun σ i=>?_) _ _
  ⟨[],k,ls,[],[],[],false,a8,x9,x10,x11,m,rfl,rfl,T,hR,⟨rfl,rfl,rfl,rfl,Al _,by rw[List.length_nil];exact zm 144253556707919820489256 rfl hl,hw,rfl,Bool.false_or _⟩⟩
 obtain⟨KA,kz,l',GA,CA,R,f,a8',y9,y10,y11,m',rfl,hl',T',R',w⟩:=i
 cases l' with
 | cons _ _=>cases hl'
 | nil=>
  obtain⟨_,_,s1,s2,b1,b2,_,s3,s4⟩:=w
  rw[s1,s2] at T'
  rw[show(zE kz []).2=false from rfl,Bool.or_false] at s4
  rw[List.length_nil] at b2
  rw[s4]
  exact h m' a8' _ _ _ KA kz R T' R' (by exact ze 481548793224639865177034429563432 rfl b1 b2) s3 (by exact zm 150377877677801941767208 rfl b2)
theorem zl2: ∀(r run:Row) (k:Tx),Run run→zg r→(zac k run r).1.length+wa (zac k run r).2≤k.length+zaf run+phi r∧(zac k run r).2.length≤run.length+r.length
 | [],run,k,hr,_=>by
  rw[zqc]
  have:=zet hr
  by_cases h:run=[]
  ·rw[if_pos h];simp[wa];exact zj 1173068317240 rfl
  ·rw[if_neg h]
   have:=Bl.mpr h
   simp[wa];exact⟨by rw[zet hr];exact Bc _ _,this⟩
 | (j,t)::r,run,k,hr,hK=>by
  have tr:=zet hr
  rw[zd]
  by_cases hj:j=0
  ·subst hj
   by_cases h:run=[]
   ·subst h
    rw[znr]
    obtain⟨a,b⟩:=zl2 r [] (k++t) .nil hK.tail
    simp only[Aa,zaf,List.length_cons,List.length_nil] at a b ⊢
    exact⟨zd8 22502221655371318976200389301886415017000 rfl a,ze 4765025709319692354088 rfl b⟩
   ·rw[zq8 h]
    obtain⟨a,b⟩:=zl2 r [] t .nil hK.tail
    have:=Bl.mpr h
    simp only[wa,zaf,List.length_cons,List.length_nil] at a b ⊢
    exact⟨zwl 300767695841096825125090532814795149440561786808938533931 rfl tr a,zj 4879464756082137914016296 rfl b⟩
  ·rw[zng hj]
   obtain⟨a,b⟩:=zl2 r (run++[(j,t)]) k (hr.snoc (zib hK.head hj)) hK.tail
   rw[zdh] at a
   have z:zaf [(j,t)]=t.length:=by simp[zaf,hj]
   simp only[Aa,List.length_cons,List.length_nil] at a b ⊢
   exact⟨zmi 234442606605443651139792147248386708536564388904 rfl a z,zj 5035219725702186901372535336 rfl b⟩
end
section
variable {P:PC}{Q:V→Mem→Prop}{m:Mem}
theorem z1b {d a b c:Addr}{r:Row}{m3:Mem}{ins:Bool}{x5 x6:Option V} (z1:(zac [] [] r).1.length+wa (zac [] [] r).2≤1000) (z2:(zac [] [] r).2.length≤900) (T3:Three m m3 a b c (kL (zac [] [] r)) (gL (zac [] [] r)) (cL (zac [] [] r))) (h: ∀m' a,Gr m m'→m' a=some (.list (rv (zef r)))→Q (.tup [.obj a,.bool (fell r)]) m'):
  zk P (zP.drop 4) (fun fl σ'=>Q (retV fl) σ'.mem) (plS d a b c ins x5 x6 none none none none none m3):=by
 unfold zP
 show zk P (_::_::_::_::_::[]) _ _
 refine ssx fun Q5 n5=>?_
 walk_at "D"
 refine n5 _ (ssx fun Q6 n6=>?_)
 walk_at "D"
 intro a8 h8
 have T4:=T3.new h8 (.list [])
 have n8:m a8=none:=by
  cases q:m a8 with
  | none=>rfl
  | some v=>rw[T3.gr _ _ q] at h8;cases h8
 have R4:RowAt m (upd m3 a8 (.list [])) a b c a8 []:=⟨ups _ _ _,n8,fun q=>(by subst q;rw[T3.ha] at h8;cases h8),fun q=>(by subst q;rw[T3.hb] at h8;cases h8),fun q=>(by subst q;rw[T3.hc] at h8;cases h8)⟩
 clear T3 h8 n8
 generalize upd m3 a8 (.list [])=m4 at *
 refine n6 _ (ssx fun Q7 n7=>zxk (k:=(zac [] [] r).1) (ls:=(zac [] [] r).2) T4 R4 z1 z2 fun m5 a8' x9 x10 x11 KA kz R T5 R5 hRl hRe hKA=>n7 _ (ssx fun Q8 n8=>?_))
 clear T4 R4 z1 z2 n5 n6 n7
 walk_at "D"
 refine⟨⟨_,R5.h⟩,by (first|exact zag (by lia)|(unfold zr;lia)|(unfold zr;grind)),_,_,T5.ha,zt6 _ _,?_⟩
 walk_at "D"
 refine⟨_,R5.h,by rw[zl];unfold sma;exact zm 1186022025138826706420264 rfl hRl,n8 _ ?_⟩
 have g5:=T5.gr.set R5.n (.list (rv R++[.tup [.int 0,.str kz]]))
 have e5:=ups m5 a8' (.list (rv R++[.tup [.int 0,.str kz]]))
 rw[show rv R++[V.tup [.int 0,.str kz]]=rv (zE (zac [] [] r).1 (zac [] [] r).2).1 by rw[←hRe,zN];rfl] at *
 have l5:=congrArg List.length hRe
 rw[Aa,List.length_singleton] at l5
 clear n8 T5 R5 hRe hKA
 generalize upd m5 a8' (.list (rv (zE (zac [] [] r).1 (zac [] [] r).2).1))=m6 at *
 refine ssn ?_
 rw[r_sret,r_tup,r_es1]
 refine z1x (L:=[some (.obj d),some (.obj a),some (.obj b),some (.obj c),some (.bool ins),x5,x6,some (.bool (zE (zac [] [] r).1 (zac [] [] r).2).2),some (.obj a8'),x9,x10,x11]) (i:=8) e5 (by exact ze 16423751877787439285479996916264 rfl hRl l5) rfl fun w hw=>?_
 walk_at "D"
 exact h _ w (g5.trans (.new hw _)) (ups _ _ _)
theorem z1q {d:Addr}{r:Row} (hm:m d=some (.list (rv r))) (hK:zg r) (hφ:phi r≤800) (h: ∀m' a,Gr m m'→m' a=some (.list (rv (zef r)))→Q (.tup [.obj a,.bool (fell r)]) m'):
  zk P zP (fun fl σ'=>Q (retV fl) σ'.mem) ⟨[V.obj d].map some++List.replicate 11 none,m⟩:=by
 obtain⟨z1,z2⟩:=zl2 r [] [] .nil hK
 have hL:=llp r
 replace z1:(zac [] [] r).1.length+wa (zac [] [] r).2≤0+0+phi r:=z1
 replace z2:(zac [] [] r).2.length≤0+r.length:=z2
 unfold zP
 show zk P (_::_::_::_::zP.drop 4) _ _
 refine ssx fun Q1 n1=>?_
 walk_at "D"
 intro a ha b hb c hc
 refine⟨rfl,n1 _ ?_⟩
 have ab:a≠b:=fun q=>by subst q;rw[ups] at hb;cases hb
 have ac:a≠c:=fun q=>by subst q;rw[upn _ _ ab,ups] at hc;cases hc
 have bc:b≠c:=fun q=>by subst q;rw[ups] at hc;cases hc
 have nb:m b=none:=by rw[upn _ _ (Ne.symm ab)] at hb;exact hb
 have nc:m c=none:=by rw[upn _ _ (Ne.symm bc),upn _ _ (Ne.symm ac)] at hc;exact hc
 have T:Three m (upd (upd (upd m a (.list [.str []])) b (.list [])) c (.list [])) a b c [[]] [] []:=
  ⟨((Gr.new ha _).trans (.new hb _)).trans (.new hc _),ha,nb,nc,ab,ac,bc,by rw[upn _ _ ac,upn _ _ ab,ups];rfl,by rw[upn _ _ bc,ups];rfl,by rw[ups];rfl⟩
 clear n1 ha hb hc ab ac bc nb nc
 generalize upd (upd (upd m a (.list [.str []])) b (.list [])) c (.list [])=m1 at T
 refine ssx fun Q2 n2=>?_
 walk_at "D"
 refine n2 _ (ssx fun Q3 n3=>zxs (T.gr _ _ hm) hK (by exact zm 146853396169491481128 rfl hφ) hm T fun m2 x5 x6 ins K T2 i1 i2=>n3 _ (ssx fun Q4 n4=>zf fun K2 kt kf=>?_))
 have rest: ∀m3,Three m m3 a b c (kL (zac [] [] r)) (gL (zac [] [] r)) (cL (zac [] [] r))→Q4 .next (plS d a b c ins x5 x6 none none none none none m3):=fun m3 T3=>n4 _ (z1b (by exact zj 1354486097855637001670726290343815283240 rfl hφ z1) (by exact zj 10150962047319201910884726692909154856 rfl hφ hL z2) T3 h)
 walk_at "D"
 cases ins with
 | true=>
  refine kt _ (ssx fun Q5 n5=>zig rfl T2.ha ?_ (n5 _ (zc (rest _ ?_))))
  ·have:=congrArg List.length (i1 rfl)
   rw[Aa,show(kL (zac [] [] r)).length=(zac [] [] r).2.length+1 from congrArg Nat.succ (Ar _)] at this
   replace this:K.length+1=(zac [] [] r).2.length+1:=this
   unfold sma;exact zT 751730766293169174728057506927392346246353959501431336 rfl hφ hL z2 this
  ·rw[←i1 rfl];exact T2.setA
 | false=>
  refine kf _ (zc (rest _ ?_))
  rw[←i2 rfl];exact T2
end
noncomputable def GS.with (G:GS) (c:Addr) (o:Obj):GS:={G with keep:=zO G.keep c o}
theorem GS.with_ok {G:GS}{c:Addr}{o:Obj} (h:G.ok):(G.with c o).ok:=⟨h.g,h.b,h.lim,h.k⟩
theorem GS.with_bi {G:GS}{c:Addr}{o:Obj} (h:G.bi):(G.with c o).bi:=⟨h.bi⟩
theorem Base.with {G:GS}{P:PC} (b:Base G P) (c:Addr) (o:Obj):Base (G.with c o) P:=⟨GS.with_ok b.gok,GS.with_bi b.gbi,⟨b.pc.hd,b.pc.get,b.pc.cc,b.pc.set,b.pc.over⟩,b.fns,b.meths⟩
abbrev selfS:Str:="self"
theorem zi8 {x:Str}{c:Value}: ∀{l:List (Str×Value)},(l.map (·.1)).Nodup→(x,c)∈l→l.lookup x=some c
 | [],_,h=>by cases h
 | (y,d)::l,hn,h=>by
  rw[List.map_cons,List.nodup_cons] at hn
  rcases List.mem_cons.mp h with e | h
  ·cases e;rw[List.lookup_cons,beq_self_eq_true]
  ·have:x≠y:=fun q=>hn.1 (List.mem_map.mpr ⟨(x,c),h,q⟩)
   rw[List.lookup_cons,beq_eq_false_iff_ne.mpr this]
   exact zi8 hn.2 h
theorem zjn: ∀(ps:List Str) (cs:List Value),((ps.zip cs).map (·.1)).Sublist ps
 | [],_=>List.Sublist.refl _
 | _::_,[]=>List.nil_sublist _
 | p::ps,c::cs=>(zjn ps cs).cons_cons p
theorem zsf {ps:List Str} (hn:ps.Nodup) {cs:List Value}{i:Nat}{x:Str}{c:Value} (hp:ps[i]? =some x) (hc:cs[i]? =some c):(ps.zip cs).reverse.lookup x=some c:=by
 have hmem:(x,c)∈(ps.zip cs).reverse:=List.mem_reverse.mpr (Bp (i:=i) (List.getElem?_zip_eq_some.mpr ⟨hp,hc⟩))
 refine zi8 ?_ hmem
 rw[List.map_reverse]
 exact(List.reverse_perm _).nodup_iff.mpr (hn.sublist (zjn _ _))
noncomputable def zcq (xs:List Str) (x:Str) (c:Addr):List (Str×VK):=(x,.ref c)::xs.map (·,.loc)
theorem z3 {xs:List Str}{x y:Str}{c:Addr}{i:Nat}{k:VK} (h:(zcq xs x c)[i]? =some (y,k)):(i=0∧y=x∧k= .ref c)∨∃j,i=j+1∧xs[j]? =some y∧k= .loc:=by
 unfold zcq at h
 cases i with
 | zero=>cases h;exact .inl ⟨rfl,rfl,rfl⟩
 | succ j=>
  rw[List.getElem?_cons_succ,Bm,Bn] at h
  obtain⟨z,a,b⟩:=h
  cases b
  exact .inr ⟨j,rfl,a,rfl⟩
noncomputable def zrf (xs:List Str) (names:List (Str×NameKind)) (fns meths:List String):SC:=⟨(selfS,true)::xs.map (·,false),names,fns,meths,[]⟩
noncomputable def z7l (xs:List Str):Bool:=xs.all fun x=>!(x==("__debug__":Str))&&!(x==("__classdict__":Str))
noncomputable def zt7 (sc:Scope) (xs:List Str) (names:List (Str×NameKind)) (k:NameKind):Bool:=
 zki (selfS::xs)&&(z7l (selfS::xs)&&(xs.all (fun x=>sc.names.lookup x==some .local)&&(sc.names.lookup selfS==some k&&(names.all (fun p=>sc.names.lookup p.1==some p.2)&&sc.kind== .function))))
theorem z0d {env:Env}{xs:List Str}{names:List (Str×NameKind)}{k:NameKind}{c:Addr}{fns meths:List String}{G:GS} (h:zt7 env.scope xs names k=true) (hk:k= .cell∨k= .free) (hg:env.globals=mainGlobals) (hb:env.builtins=builtinsNs) (hc:env.cells.lookup selfS=some c)
  (hf: ∀n,n∈fns→n∈G.fns) (hm: ∀n,n∈meths→n∈G.meths):FE.ok ⟨env,zcq xs selfS c⟩∧(zrf xs names fns meths).ok G ⟨env,zcq xs selfS c⟩:=by
 obtain⟨h1,h⟩:=zb h
 obtain⟨h2,h⟩:=zb h
 obtain⟨h3,h⟩:=zb h
 obtain⟨h4,h⟩:=zb h
 obtain⟨h5,h6⟩:=zb h
 have nd:=zc0 h1
 have dbg: ∀x,x∈selfS::xs→(x==("__debug__":Str))=false∧(x==("__classdict__":Str))=false:=fun x hx=>by
  have:=zb (Bo.mp h2 x hx)
  exact⟨(Bool.not_eq_true' _).mp this.1,(Bool.not_eq_true' _).mp this.2⟩
 have nm: ∀{i:Nat} {y:Str} {k:VK},(zcq xs selfS c)[i]? =some (y,k)→(selfS::xs)[i]? =some y:=fun {i y k} e=>by
  rcases z3 e with ⟨rfl,rfl,_⟩ | ⟨j,rfl,e,_⟩
  ·rfl
  ·exact e
 refine⟨⟨Bh.mp h6,hg,hb,?_,?_,?_,?_,?_,?_⟩,⟨(fun _ _ h=>nomatch h),hf,hm,?_,?_⟩⟩
 ·intro i y e
  rcases z3 e with ⟨_,_,e⟩ | ⟨j,_,e,_⟩
  ·cases e
  ·exact Bh.mp (Bo.mp h3 y (Bp e))
 ·intro i y d e
  rcases z3 e with ⟨_,_,e⟩ | ⟨j,_,_,e⟩<;>cases e
 ·intro i y d e
  rcases z3 e with ⟨_,rfl,e2⟩ | ⟨j,_,_,e2⟩
  ·cases e2
   refine⟨?_,hc⟩
   have:=Bh.mp h4
   rcases hk with rfl | rfl
   ·exact .inl this
   ·exact .inr this
  ·cases e2
 ·intro i j y k k' e1 e2
  have e1:=nm e1
  obtain⟨hi,_⟩:=Ce.mp e1
  exact(List.getElem?_inj hi nd).mp (e1.trans (nm e2).symm)
 ·intro i j y z d e
  rcases z3 e with ⟨_,_,e⟩ | ⟨j,_,_,e⟩<;>cases e
 ·intro i y k e
  exact dbg y (Bp (nm e))
 ·intro i y r e
  cases i with
  | zero=>cases e;exact⟨.ref c,rfl,fun q=>nomatch q⟩
  | succ j=>
   have e:(xs.map (·,false))[j]? =some (y,r):=e
   rw[Bm,Bn] at e
   obtain⟨z,a,b⟩:=e
   cases b
   refine⟨.loc,?_,fun _ d q=>nomatch q⟩
   show(xs.map (·,VK.loc))[j]? =_
   rw[Bm,a];rfl
 ·intro y hy
  exact Bh.mp (Bo.mp h5 _ (zfd hy))
theorem Rp.less {G G':GS}{frz frz':Frz}{m m':Mem}{s s':Shared} (r:Rp G frz m s) (r':Rp G' frz' m' s') (hs0:G'.s0=G.s0) (hb:G'.base=G.base) (up: ∀b o,frz b=some o→frz' b=some o):Rp G frz m' s':=by
 refine⟨by rw[←hs0];exact r'.same,r.hbase,r.hkeep,fun b o e=>r'.hfrz _ _ (up _ _ e),r'.hmem,fun a o e=>?_,by rw[←hb];exact r'.hsz⟩
 cases q:frz a with
 | none=>rfl
 | some x=>have:=r'.hmemF a o e;rw[up a x q] at this;cases this
section
variable {G:GS}{A:Around}
theorem zy3 {fd:FuncData}{f c a:Addr}{fo co:Obj}{body:List Stmt}{ps rest:List Str}{names:List (Str×NameKind)}{fns meths:List String}{mine:List Sm}{P:PC}{vs:List V}{m:Mem}{Q:V→Mem→Prop}
  (gok:G.ok) (gbi:G.bi) (hk:G.keep c=some co) (hco:co.data= .cell (some (.ref a))) (hm:m f=some (.fn fo)) (hfd:fo.data= .func fd)
  (hpar:zrp fd.params ps=true) (hdf:fd.defaults= .none) (hclo:fd.closure=[(selfS,c)]) (hgl:fd.globals=mainGlobals) (hbu:fd.builtins=builtinsNs) (hsc:zt7 fd.scope (ps++rest) names .free=true) (hce:fd.scope.names.all (fun p=>!(p.2== .cell))=true) (h5:fd.scope.isCoroutine=false) (h6:fd.scope.isGenerator=false)
  (hbody:fd.body= .stmts body) (chk:zda (zrf (ps++rest) names fns meths) mine body=true) (hd:A.depth<recursionLimit) (hA: ∀env,Rm (A.deeper env)) (hP: ∀env,P.run G (A.deeper env))
  (hf: ∀n,n∈fns→n∈G.fns) (hmm: ∀n,n∈meths→n∈G.meths) (hl:vs.length=ps.length)
  (w:zk P mine (fun fl σ'=>Q (retV fl) σ'.mem) ⟨some (.obj a)::(vs.map some++List.replicate rest.length none),m⟩):ziw G A (.ref f) vs Q m:=by
 intro frz s cvs r hv
 have gf:s.heap.get? f=some fo∧s.heap.CodeRec fd.code fd.qualname:=by
  cases r.hmem _ _ hm with
  | fn g d e x i=>
   rw[hfd] at d
   cases d
   obtain⟨ys,t,i1,i2⟩:=i
   exact⟨g,_,_,ys,t,e,x,i1,i2⟩
 have hz:=hv.length
 have nd:=(List.nodup_cons.mp (zc0 (zb hsc).1)).2
 have ndp:=(List.nodup_append.mp nd).1
 have hlo: ∀x,x∈ps++rest→fd.scope.names.lookup x=some .local:=fun x hx=>Bh.mp (Bo.mp (zb (zb (zb hsc).2).2).1 x hx)
 have hfn:fd.scope.kind= .function:=Bh.mp (zb (zb (zb (zb (zb hsc).2).2).2).2).2
 refine codeAny_call_def hd gf.1 hfd (gok.lim.keeps fun b o e=>r.hfrz _ _ (r.hbase _ _ e)) gf.2 hbody (zff (c:=ps.length) (j:=0) (ds:=[]) hpar (.inl ⟨hdf,rfl⟩) ndp (by rw[hz,hl,Nat.zero_add]) rfl (Al _)) ?_ ?_ (fun h₀ hns hkeep=>?_) h5 h6 hfn
 ·intro x hx e
  have:=Bo.mp hce x hx
  rw[e] at this;cases this
 ·intro x hx
  exact hlo _ (List.mem_append_left _ (List.of_mem_zip hx).1)
 ·rw[show cvs++List.drop 0 ([]:List Value)=cvs from Ag _] at *
  have tk0:TK s.heap h₀:= .of hkeep
  have env_c:(callEnv fd s.heap.objs.size f).cells.lookup selfS=some c:=by
   show fd.closure.lookup selfS=_
   simp only[hclo,List.lookup_cons,beq_self_eq_true]
  obtain⟨ok,cok⟩:=z0d (G:=G) (env:=callEnv fd s.heap.objs.size f) (fns:=fns) (meths:=meths) hsc (.inr rfl) hgl hbu env_c hf hmm
  have r0:Rep G ⟨callEnv fd s.heap.objs.size f,zcq (ps++rest) selfS c⟩ frz ⟨some (.obj a)::(vs.map some++List.replicate rest.length none),m⟩ {s with heap:=h₀,toks:=s.toks+(ps.zip cvs).length}:=by
   refine⟨let ⟨_,_,e⟩:=r.same;⟨h₀,_,by rw[e]⟩,r.hbase,r.hkeep,fun b o e=>hkeep b o (r.hfrz b o e),fun b o e=>(r.hmem b o e).keep tk0 (hkeep b),r.hmemF,r.hsz,(r.none_of_ge (Al _)).2,(r.none_of_ge (Al _)).1,?_,?_,?_⟩
   ·refine⟨_,hns,fun i y v hx hv'=>?_⟩
    rcases z3 hx with ⟨_,_,e⟩ | ⟨j,rfl,e,_⟩
    ·cases e
    ·simp only[List.getElem?_cons_succ] at hv'
     by_cases hj:j<ps.length
     ·rw[Bg hj] at e
      rw[Bg (by rw[Ar,hl];exact hj),Bm,Bn] at hv'
      obtain⟨u,hu,e2⟩:=hv'
      cases e2
      obtain⟨cv,a1,a2⟩:=hv.get hu
      exact⟨cv,zsf ndp e a1,a2.tk tk0⟩
     ·rw[Bf (by rw[Ar,hl];exact Az hj),List.getElem?_replicate] at hv'
      split at hv'<;>cases hv'
   ·intro i y d hx
    rcases z3 hx with ⟨_,_,e⟩ | ⟨j,_,_,e⟩<;>cases e
   ·intro i y d hx
    rcases z3 hx with ⟨rfl,rfl,e⟩ | ⟨j,_,_,e⟩
    ·cases e
     exact⟨co,_,r.hkeep _ _ hk,hco,fun v hv'=>by cases hv';exact⟨_,rfl,.obj a⟩⟩
    ·cases e
  exact(zth mine _ _ ⟨gok,gbi,hA _,hP _,ok,cok⟩ body chk _ _ w).then r0 fun cf fl σ₁ s₁ a1 r1 t1 w1=>⟨retV fl,_,zop a1,r1.rp,tk0.trans t1,w1⟩
end
noncomputable def zro (names:List (Str×NameKind)):List Str:=names.filterMap fun p=>if p.2== .cell then some p.1 else none
theorem zks: ∀(names:List (Str×NameKind)) (n:Nat) (acc:List (Str×Addr)),zro names=[]→cellsFrom n names acc=acc
 | [],_,_,_=>rfl
 | (x,k)::r,n,acc,h=>by
  unfold zro at h
  rw[List.filterMap_cons] at h
  unfold cellsFrom
  cases hk:k==NameKind.cell with
  | true=>simp only[hk,if_true] at h;cases h
  | false=>
   simp only[hk,Bool.false_eq_true,if_false] at h
   exact zks r n acc h
theorem zn3 {x:Str}: ∀(names:List (Str×NameKind)) (n:Nat),zro names=[x]→cellsFrom n names []=[(x,n)]
 | [],_,h=>nomatch h
 | (y,k)::r,n,h=>by
  unfold zro at h
  rw[List.filterMap_cons] at h
  unfold cellsFrom
  cases hk:k==NameKind.cell with
  | true=>
   simp only[hk,if_true] at h
   obtain⟨rfl,h2⟩:=List.cons.inj h
   exact zks r (n+1) [(y,n)] h2
  | false=>
   simp only[hk,Bool.false_eq_true,if_false] at h
   exact zn3 r n h
section
variable {G:GS}{A:Around}
theorem zz2 {frz:Frz}{c:Addr}{co:Obj} (n2:frz c=none): ∀b o,frz b=some o→zO frz c co b=some o:=fun b o e=>by
 unfold zO
 rw[if_neg (fun q=>by subst q;rw[n2] at e;cases e)];exact e
theorem zxn {frz:Frz}{m:Mem}{s:Shared}{env:Env}{c a:Addr}{co:Obj}{h₁:Heap}{tk:Nat}{ps rest:List Str}{vs:List V}{cvs:List Value}{nm:Str→Option Value}
  (r:Rp G frz m s) (hkeep: ∀b o,s.heap.get? b=some o→h₁.get? b=some o) (gco:h₁.get? c=some co) (dco:co.data= .cell (some (.ref a))) (nL:m env.locals=none∧frz env.locals=none) (n1:m c=none) (n2:frz c=none) (hLc: ¬env.locals=c) (hs:G.base.objs.size≤env.locals)
  (hns:h₁.Ns env.locals nm) (hnm: ∀(j:Nat) y cv,ps[j]? =some y→cvs[j]? =some cv→nm y=some cv) (hvs:RVs s.heap cvs vs) (hl:vs.length=ps.length):
  Rep (G.with c co) ⟨env,zcq (ps++rest) selfS c⟩ (zO frz c co) ⟨some (.obj a)::(vs.map some++List.replicate rest.length none),m⟩ {s with heap:=h₁,toks:=tk} where
 same:=let ⟨_,_,e⟩:=r.same;⟨h₁,_,by rw[e];rfl⟩
 hbase:=fun b o e=>zz2 n2 b o (r.hbase b o e)
 hkeep:=fun b o e=>by
  replace e:zO G.keep c co b=some o:=e
  unfold zO at e ⊢
  by_cases q:b=c
  ·rw[if_pos q] at e ⊢;exact e
  ·rw[if_neg q] at e ⊢;exact r.hkeep b o e
 hfrz:=fun b o e=>by
  unfold zO at e
  by_cases q:b=c
  ·rw[if_pos q] at e
   subst q;cases e;exact gco
  ·rw[if_neg q] at e;exact hkeep b o (r.hfrz b o e)
 hmem:=fun b o e=>(r.hmem b o e).keep (.of hkeep) (hkeep b)
 hmemF:=fun b o e=>(if_neg (fun q=>by subst q;rw[show m _=some o from e] at n1;cases n1)).trans (r.hmemF b o e)
 hab:=hs
 hlf:=(if_neg hLc).trans nL.2
 hlm:=nL.1
 hns:=by
  refine⟨_,hns,fun i y v hx hv'=>?_⟩
  rcases z3 hx with ⟨_,_,e⟩ | ⟨j,rfl,e,_⟩
  ·cases e
  ·rw[List.getElem?_cons_succ] at hv'
   by_cases hj:j<ps.length
   ·rw[Bg hj] at e
    rw[Bg (by rw[Ar,hl];exact hj),Bm,Bn] at hv'
    obtain⟨u,hu,e2⟩:=hv'
    cases e2
    obtain⟨cv,a1,a2⟩:=hvs.get hu
    exact⟨cv,hnm _ _ _ e a1,a2.tk (.of hkeep)⟩
   ·rw[Bf (by rw[Ar,hl];exact Az hj),List.getElem?_replicate] at hv'
    by_cases q:j-(vs.map some).length<rest.length
    ·rw[if_pos q] at hv';cases hv'
    ·rw[if_neg q] at hv';cases hv'
 hown:=fun i y d hx=>by
  rcases z3 hx with ⟨_,_,e⟩ | ⟨j,_,_,e⟩<;>cases e
 href:=fun i y d hx=>by
  rcases z3 hx with ⟨rfl,rfl,e⟩ | ⟨j,_,_,e⟩
  ·cases e
   exact⟨co,_,if_pos rfl,dco,fun v hv'=>by cases hv';exact⟨_,rfl,.obj a⟩⟩
  ·cases e
theorem zuk {fd:FuncData}{f a:Addr}{body:List Stmt}{ps rest:List Str}{names:List (Str×NameKind)}{vs:List V}{m:Mem}{Q:V→Mem→Prop}
  (gok:G.ok) (hfd:z5c G.K f=some fd) (F:FdOk G.K fd (selfS::ps)) (hdf:fd.defaults= .none) (hclo:fd.closure=[]) (hcell:zro fd.scope.names=[selfS]) (hsc:zt7 fd.scope (ps++rest) names .cell=true) (hbody:fd.body= .stmts body) (hd:A.depth<recursionLimit) (hl:vs.length=ps.length)
  (h: ∀(L c:Addr) (co:Obj),co.data= .cell (some (.ref a))→(callEnvC fd L f).cells.lookup selfS=some c→WF (G.with c co) (A.deeper (callEnvC fd L f)) ⟨callEnvC fd L f,zcq (ps++rest) selfS c⟩ (execs body (callEnvC fd L f)) (fun fl σ'=>Q (retV fl) σ'.mem)
   ⟨some (.obj a)::(vs.map some++List.replicate rest.length none),m⟩):ziw G A (.ref f) (.obj a::vs) Q m:=by
 obtain⟨o,hK,hdt⟩:=zq7 hfd
 have ndx:=zc0 (zb hsc).1
 obtain⟨nx,nd⟩:=List.nodup_cons.mp ndx
 have ndp:(selfS::ps).Nodup:=List.nodup_cons.mpr ⟨fun q=>nx (List.mem_append_left _ q),(List.nodup_append.mp nd).1⟩
 have hlo: ∀x,x∈ps++rest→fd.scope.names.lookup x=some .local:=fun x hx=>Bh.mp (Bo.mp (zb (zb (zb hsc).2).2).1 x hx)
 have hse:fd.scope.names.lookup selfS=some .cell:=Bh.mp (zb (zb (zb (zb hsc).2).2).2).1
 intro frz s cvs r hv
 have kin:G.K.In s.heap:=fun a o e=>r.hfrz _ _ (r.hbase _ _ (gok.k a o e))
 have hlim:s.heap.NoLimit:=gok.lim.keeps fun b o e=>r.hfrz _ _ (r.hbase _ _ e)
 cases hv with
 | cons hva hvs=>
 cases hva
 rename_i cvs
 have hz:=hvs.length
 refine codeAny_call_function hd (kin _ _ hK) hdt F.co F.ge hbody (codeRec_of kin F.code) ?_
 refine zff (c:=ps.length+1) (j:=0) (ds:=[]) F.par (.inl ⟨hdf,rfl⟩) ndp (by rw[List.length_cons,hz,hl,Nat.zero_add]) (by rw[List.length_cons];rfl) (Al _) _ _ _ _ ?_
 rw[hclo,show(Value.ref a::cvs)++List.drop 0 ([]:List Value)= .ref a::cvs from Ag _]
 refine wpAny_newFunctionEnv_cells F.fn ?_ fun env he s₁ x=>?_
 ·intro y hy
  rw[List.zip_cons_cons] at hy
  rcases List.mem_cons.mp hy with rfl | hy
  ·exact .inr ⟨hse,zcz _ _ _ hse⟩
  ·exact .inl (hlo _ (List.mem_append_left _ (List.of_mem_zip hy).1))
 ·subst he
  refine⟨hlim.keeps x.toInCall.keep,codeAny_func ?_⟩
  have hkeep:=x.toInCall.keep
  obtain⟨h₁,tk,rfl,_⟩:=x.done
  have tk0:TK s.heap h₁:= .of hkeep
  have hlook:(callEnvC fd s.heap.objs.size f).cells.lookup selfS=some (s.heap.objs.size+1):=by
   show(cellsFrom (s.heap.objs.size+1) fd.scope.names []).lookup selfS=_
   rw[zn3 _ _ hcell,List.lookup_cons,beq_self_eq_true]
  obtain⟨co,gco,dco⟩:=x.cell selfS _ hlook
  have dco':co.data= .cell (some (.ref a)):=by
   rw[dco]
   exact congrArg Data.cell (zjh (ps:=selfS::ps) (cs:= .ref a::cvs) (i:=0) ndp rfl rfl (by show ¬fd.scope.names.lookup selfS=_;rw[hse];decide))
  obtain⟨n1,n2⟩:=r.none_of_ge (Nat.le_succ s.heap.objs.size)
  have r0:=zxn (env:=callEnvC fd s.heap.objs.size f) (tk:=tk) (rest:=rest) r hkeep gco dco' (r.none_of_ge (Al _)) n1 n2 (Nat.ne_of_lt (Cb _)) r.hsz x.toInCall.ns
   (fun j y cv e a1=>zi5 (ps:=selfS::ps) (cs:= .ref a::cvs) (i:=j+1) ndp e a1 (hlo y (List.mem_append_left _ (Bp e)))) hvs hl
  exact(h s.heap.objs.size (s.heap.objs.size+1) co dco' hlook).then r0 fun cf fl σ₁ s₁ a1 r1 t1 w1=>⟨retV fl,_,zop a1,r.less r1.rp rfl rfl (zz2 n2),tk0.trans t1,w1⟩
theorem z6y {P:PC}:(x:Sm)→SS G A P x:=Sm.rec (motive_1:=SS G A P) (motive_2:=SB G A P)
 (fun _=>zv4) (fun _ _=>zmq) (fun _ _ _=>zzr) (fun _ _=>z0b) (fun _ _ _ ia ib=>zzk ia ib) (fun _ _ ib=>zza ib) (fun _ _ _ ib=>z4v ib) (fun _=>zzq) zz4
 (fun _ _ _ _ h=>absurd h Au) zz0 (fun _ _ ix is=>zvw ix is)
theorem zml {Γ:FE}{C:SC}{P:PC} (X:Cx G A P Γ C) {ys:List Stmt}{Q:Fl→St→Prop}: ∀(xs:List Sm) (es:List Stmt),zda C xs es=true→∀{σ:St},
  zk P xs (fun fl σ'=>match fl with | .next=>WF G A Γ (execs ys Γ.env) Q σ' | .brk=>Q .brk σ' | .cont=>Q .cont σ' | .ret v=>Q (.ret v) σ') σ→WF G A Γ (execs (es++ys) Γ.env) Q σ
 | [],es,h,σ,w=>by rw[zm8 h];exact w
 | x::xs,es,h,σ,w=>by
  rcases zkw h with rfl | ⟨e,es,rfl,h1,h2⟩
  ·exact False.elim w
  intro frz s r
  rw[List.cons_append,arm_execs_cons]
  refine Ac ((z6y x _ _ X e h1 _ _ w).then r fun cf f σ₁ s₁ a1 r1 t1 w1=>?_)
  cases a1 with
  | next=>exact Bu (zml X xs _ h2 w1 frz s₁ r1) (fun f s₂ p=>p.after t1) fun _ _ x=>x
  | brk=>exact Aj ⟨_,σ₁,.brk,r1,t1,w1⟩
  | cont=>exact Aj ⟨_,σ₁,.cont,r1,t1,w1⟩
  | ret q=>exact Aj ⟨_,σ₁,.ret q,r1,t1,w1⟩
end
section
variable {G:GS}{A:Around}{Γ:FE}{frz:Frz}{σ:St}{s:Shared}
noncomputable def BM (G:GS):Prop:= ∃bm ob,G.mg "__builtins__"=some (.ref bm)∧bm≠builtinsNs∧G.base.get? bm=some ob∧ob.cls= .type "module"∧ob.dict=some builtinsNs∧ob.data= .plain
noncomputable abbrev fnM (G:GS) (name q:Str) (params:Arguments) (body:List Stmt) (scope:Scope) (clos:List (Str×Addr)) (doc:Value) (c:Addr) (ctv:Value):Obj:=fnMade name q params body scope clos doc ((G.mg "__name__").getD .none) c ctv
theorem z5l {name:Str}{params:Arguments}{body:List Stmt}{scope:Scope}{pos:Pos}{c P:Addr}{q:Str}{clos:List (Str×Addr)}{i:Nat}{k:VK}{Q:Fl→St→Prop}
  (gok:G.ok) (ok:Γ.ok) (T:BM G) (hcode:Γ.env.code= .ref c) (C:CodeHd G.base c P) (hd0:params.defaults=[]) (hk0:params.kw_defaults=[]) (ha:annTrees params none Γ.env=[])
  (hq:qualnameIn Γ.env name name=q) (hcl:closureFor scope Γ.env=pure clos) (hx:Γ.vars[i]? =some (name,k)) (hk: ∀c,k≠ .ref c) (hT:σ.mem P=some (.tab pos q))
  (w: ∀f c' ctv doc,σ.mem f=none→Q .next ((St.mk σ.loc (upd σ.mem f (.fn (fnM G name q params body scope clos doc c' ctv)))).set i (.obj f))):WF G A Γ (exec (.FunctionDef name params body [] none [] scope none name pos) Γ.env) Q σ:=by
 intro frz s r
 have kb: ∀b o,G.base.get? b=some o→s.heap.get? b=some o:=fun b o e=>r.hfrz _ _ (r.hbase _ _ e)
 have hgs:=gok.g.keeps kb
 refine bc fun z9=>?_
 obtain⟨bm,ob,b1,b2,b3,b4,b5,b6⟩:=T
 refine z9 ?_
 have notP: ∀b o,G.base.get? b=some o→b≠P:=fun b o e z=>by
  subst z
  have:=r.hbase _ _ e
  rw[r.hmemF _ _ hT] at this;exact(Am _ this.symm).elim
 have hgP:mainGlobals≠P:=by
  refine bc fun z9=>?_
  obtain⟨o,es,ep,e,_⟩:=gok.g
  refine z9 ?_
  exact notP _ _ e
 have hbP:bm≠P:=notP _ _ b3
 have hbG:bm≠mainGlobals:=fun z=>by
  refine bc fun z9=>?_
  obtain⟨o,es,ep,e,hd,_⟩:=gok.g
  refine z9 ?_
  rw[z,e] at b3;cases b3;rw[hd] at b6;cases b6
 have hb: ∀h:Heap,(∀b o,G.base.get? b=some o→h.get? b=some o)→h.BuiltinsAt G.mg P:=fun h kk=>⟨bm,ob,b1,b2,hbG,hbP,kk _ _ b3,b4,b5,b6⟩
 have Cs:=C.keeps kb
 have fin: ∀f c' ctv doc h' tk,Rep G Γ frz ⟨σ.loc,upd σ.mem f (.fn (fnM G name q params body scope clos doc c' ctv))⟩ {s with heap:=h',toks:=tk}→TK s.heap h'→σ.mem f=none→
   wpAny (model G.prog G.w) A (storeName Γ.env name (.ref f)) (fun _ s''=>PF G Γ frz s Q .next s'') NoE {s with heap:=h',toks:=tk}:=fun f c' ctv doc h' tk r' t' h1=>
  Bu (zpl ok r' hx hk (.obj f)) (fun _ s₂ ⟨r2,t2⟩=>⟨.next,_,.next,r2,t'.trans t2,w f c' ctv doc h1⟩) fun _ _ x=>x
 refine nestDef_K hd0 hk0 ha ?_
 rw[hq]
 have neL: ∀b,s.heap.objs.size≤b→b≠Γ.env.locals:=fun b hb=>Ne.symm (Nat.ne_of_lt (Ba r.lt_locals hb))
 have own: ∀b,s.heap.objs.size≤b→∀(i:Nat) x c,Γ.vars[i]? =some (x,.own c)→c≠b:=fun b hb i x c e=>by
  refine bc fun z9=>?_
  obtain⟨_,_,o',ov',g',_⟩:=r.hown i x c e
  refine z9 ?_
  exact Nat.ne_of_lt (Ba (Heap.lt_size g') hb)
 cases r.hmem _ _ hT with
 | tab0 gP=>
  refine makeFunction_K (mg:=G.mg) hcl (ok.glb) hgs hcode Cs gP trivial rfl hgP (hb _ kb) fun c' ctv doc h' tk hx' hge hlt hrec htb=>?_
  refine bc fun z9=>?_
  obtain⟨c₂,oc,vs,t,e2,hoc,hdc,hv⟩:=hrec
  refine z9 ?_
  cases e2
  have keep2: ∀b o,b≠P→s.heap.get? b=some o→(h'.push (fnM G name q params body scope clos doc c' ctv)).get? b=some o:=fun b o hb e=>Heap.get?_push_of_some _ (hx' b o hb e)
  have oc2:(h'.push (fnM G name q params body scope clos doc c' ctv)).get? c'=some oc:=Heap.get?_push_of_some _ hoc
  have co:zjj q oc:=⟨vs,t,hdc,hv⟩
  obtain⟨r1,t1⟩:=r.change ok (tk:=tk) (o:= .tab pos q) hT keep2 (fun _=> .tab1 (Heap.get?_push_of_some _ (by simpa using htb)) oc2 co)
  rw[z5f hT] at r1
  have nf:=r.none_of_ge (ntr hge (Ax hlt))
  have r3:=r1.join (a:=h'.objs.size) (o:= .fn (fnM G name q params body scope clos doc c' ctv)) nf.1 nf.2 (neL _ (ntr hge (Ax hlt))) (own _ (ntr hge (Ax hlt))) (.fn (Heap.get?_push_size _ rfl) rfl rfl oc2 co)
  exact fin h'.objs.size c' ctv doc _ tk r3 t1 nf.1
 | @tab1 _ _ oc c' gP hoc co=>
  refine makeFunction_hit (mg:=G.mg) hcl (ok.glb) hgs hcode Cs gP (by simp[TriplesOk,rawInt]) (cv:= .ref c') (by simp[codeAmong,rawInt]) (hb _ kb) fun ctv doc h' tk hx' hge=>?_
  have keep2: ∀b o,s.heap.get? b=some o→(h'.push (fnM G name q params body scope clos doc c' ctv)).get? b=some o:=fun b o e=>Heap.get?_push_of_some _ (hx' b o e)
  have r1:=r.fresh (tk:=tk) (a:=h'.objs.size) (o:= .fn (fnM G name q params body scope clos doc c' ctv)) hge keep2 (.fn (Heap.get?_push_size _ rfl) rfl rfl (keep2 _ _ hoc) co)
  exact fin h'.objs.size c' ctv doc _ tk r1 (.of keep2) (r.none_of_ge hge).1
end
noncomputable def z7i (s t:Tx) (i:Nat):Bool:=decide (i+t.length≤s.length)&&decide ((s.drop i).take t.length=t)
theorem zif {s t:Tx}{i:Nat}:z7i s t i=true↔Occ s t i:=by unfold z7i Occ;rw[Cc,decide_eq_true_eq,decide_eq_true_eq]
noncomputable def zwj (s t:Tx) (k:Nat):List Nat:=(List.range' k (s.length+1-k)).filter fun i=>z7i s t i
theorem zmz {s t:Tx}{i:Nat} (h:Occ s t i):i≤s.length:=ntr (Bc ..) h.1
theorem zn1 {s t:Tx}{l:List Nat} (h: ∀i,i∈l→¬Occ s t i):l.filter (fun i=>z7i s t i)=[]:=
 List.filter_eq_nil_iff.mpr fun i hi q=>h i hi (zif.mp q)
theorem zux {s t:Tx}{k:Nat} (h: ∀i,k≤i→¬Occ s t i):zwj s t k=[]:=zn1 fun i hi=>h i (List.mem_range'_1.mp hi).1
theorem zvp {s t:Tx}{k j:Nat} (h1:k≤j) (h2:Occ s t j) (h3: ∀i,k≤i→i<j→¬Occ s t i):zwj s t k=j::zwj s t (j+1):=by
 have hj:=zmz h2
 unfold zwj
 have e:List.range' k (s.length+1-k)=List.range' k (j-k)++(j::List.range' (j+1) (s.length+1-(j+1))):=by
  rw[show s.length+1-k=(j-k)+(s.length+1-j) by exact Ai (zn7 1840247417940667055836230665925034911986095146 rfl (Ab (zj 38415384512331673829928 rfl h1 hj)) (Ab (ze 4952567644712 rfl h1)) (Ab (ze 4544286322917928 rfl hj))) (zn7 415768602764452209471372171446733271832990763 rfl (Ab (zj 38415384512331673829928 rfl h1 hj)) (Ab (ze 4952567644712 rfl h1)) (Ab (ze 4544286322917928 rfl hj))),←List.range'_append_1,show k+(j-k)=j by exact Ai (zj 9804662326409303082 rfl (Ab (ze 4952567644712 rfl h1))) (zj 5265838744531501611 rfl (Ab (ze 4952567644712 rfl h1)))]
  congr 1
  rw[show s.length+1-j=(s.length+1-(j+1))+1 by exact Ai (zT 43584184837134260905765057845057295402 rfl (Ab (ze 4544286322917928 rfl hj)) (Ab (ze 4653379542772679208 rfl hj))) (zT 48192713382418019668911411342591661099 rfl (Ab (ze 4544286322917928 rfl hj)) (Ab (ze 4653379542772679208 rfl hj))),List.range'_succ]
 simp only[e,List.filter_append,List.filter_cons_of_pos (zif.mpr h2),zn1 fun i hi=>h3 i (List.mem_range'_1.mp hi).1 (by have:=(List.mem_range'_1.mp hi).2;exact zT 120934581203633176983503401 rfl this (Ab (ze 4952567644712 rfl h1)))]
 rfl
abbrev zd6:=Tx×Tx×Tx×Tx×Tx
noncomputable def com:Option zd6→Tx
 | none=>[]
 | some f=>f.2.2.2.2
noncomputable def zqk (long short:Tx) (i j:Nat):zd6:=
 (long.take (i-lcs (long.take i) (short.take j)),long.drop (i+lcp (long.drop i) (short.drop j)),short.take (j-lcs (long.take i) (short.take j)),short.drop (j+lcp (long.drop i) (short.drop j)),
   (short.drop (j-lcs (long.take i) (short.take j))).take (lcs (long.take i) (short.take j))++(short.drop j).take (lcp (long.drop i) (short.drop j)))
noncomputable def zej (long short:Tx) (i:Nat) (acc:Option zd6) (j:Nat):Option zd6:=
 if (com acc).length<lcs (long.take i) (short.take j)+lcp (long.drop i) (short.drop j) then some (zqk long short i j) else acc
noncomputable def zi0 (long:Tx) (i:Nat):Tx:=(long.drop i).take (long.length/4)
noncomputable def znq (long short:Tx) (i:Nat):Option zd6:=(zwj short (zi0 long i) 0).foldl (zej long short i) none
noncomputable def hmI (long short:Tx) (i:Nat):Option zd6:=if long.length≤(com (znq long short i)).length * 2 then znq long short i else none
noncomputable def zgc:Option zd6→V
 | none=> .none
 | some f=> .tup [.str f.1,.str f.2.1,.str f.2.2.1,.str f.2.2.2.1,.str f.2.2.2.2]
noncomputable def z7c:List Str:=["longtext","shorttext","i"]
noncomputable def zta:List Str:=["seed","best_common","j","prefixLength","suffixLength","best_longtext_a","best_longtext_b","best_shorttext_a","best_shorttext_b"]
noncomputable def zpm:List (Str×NameKind):=[("len",.globalImplicit)]
noncomputable def z9k:List Sm:=[
  .assign [.var 5] (.bin .Add (.slc (.var 2) (.bin .Sub (.var 6) (.var 8)) (.var 6) (.lit .none)) (.slc (.var 2) (.var 6) (.bin .Add (.var 6) (.var 7)) (.lit .none))),
  .assign [.var 9] (.slc (.var 1) (.lit .none) (.bin .Sub (.var 3) (.var 8)) (.lit .none)),
  .assign [.var 10] (.slc (.var 1) (.bin .Add (.var 3) (.var 7)) (.lit .none) (.lit .none)),
  .assign [.var 11] (.slc (.var 2) (.lit .none) (.bin .Sub (.var 6) (.var 8)) (.lit .none)),
  .assign [.var 12] (.slc (.var 2) (.bin .Add (.var 6) (.var 7)) (.lit .none) (.lit .none))]
noncomputable def z84:List Sm:=[
  .assign [.var 7] (.imeth (.var 0) "diff_commonPrefix" [.slc (.var 1) (.var 3) (.lit .none) (.lit .none),.slc (.var 2) (.var 6) (.lit .none) (.lit .none)]),
  .assign [.var 8] (.imeth (.var 0) "diff_commonSuffix" [.slc (.var 1) (.lit .none) (.var 3) (.lit .none),.slc (.var 2) (.lit .none) (.var 6) (.lit .none)]),
  .ife (.cmp (.bi .len [.var 5]) [.Lt] [.bin .Add (.var 8) (.var 7)]) z9k [],
  .assign [.var 6] (.me (.var 2) .find [.var 4,.bin .Add (.var 6) (.lit (.int 1))])]
noncomputable def zq5:List Sm:=[
  .assign [.var 4] (.slc (.var 1) (.var 3) (.bin .Add (.var 3) (.bin .FloorDiv (.bi .len [.var 1]) (.lit (.int 4)))) (.lit .none)),
  .assign [.var 5] (.lit (.str [])),
  .assign [.var 6] (.me (.var 2) .find [.var 4]),
  .whl (.cmp (.var 6) [.NotEq] [.neg (.lit (.int 1))]) z84,
  .ife (.cmp (.bin .Mult (.bi .len [.var 5]) (.lit (.int 2))) [.GtE] [.bi .len [.var 1]]) [
   .ret (.tup [.var 9,.var 10,.var 11,.var 12,.var 5])] [
   .ret (.lit .none)]]
structure CpIs (P:PC):Prop where
 p: ∀(s:V) (x y:Tx) (Q:V→Mem→Prop) (m:Mem),sma x.length→sma y.length→Q (.int (lcp x y)) m→P.meth "diff_commonPrefix" [s,.str x,.str y] Q m
 s: ∀(s:V) (x y:Tx) (Q:V→Mem→Prop) (m:Mem),sma x.length→sma y.length→Q (.int (lcs x y)) m→P.meth "diff_commonSuffix" [s,.str x,.str y] Q m
section
variable {P:PC}{Q:V→Mem→Prop}{m:Mem}{t:Addr}{long short:Tx}{i:Nat}
theorem zhs {acc:Option zd6}{j:Nat} (h:(com acc).length≤short.length) (hj:j≤short.length):(com (zej long short i acc j)).length≤short.length:=by
 unfold zej
 split
 ·have h1:=(zgk (long.take i) (short.take j)).2
  have h2:=(yZ (long.drop i) (short.drop j)).2
  rw[An] at h1
  rw[Ap] at h2
  show(zqk long short i j).2.2.2.2.length≤_
  unfold zqk
  dsimp only
  rw[Aa,An,An]
  generalize lcs (long.take i) (short.take j)=a at *
  generalize lcp (long.drop i) (short.drop j)=b at *
  exact zwl 1372597416747268026263217666195741058962853552227680808 rfl h1 h2 (Nat.min_le_left _ _) (Nat.min_le_left _ _) (Nat.min_le_left _ _) (Ab (ze 4952567644712 rfl hj))
 ·exact h
noncomputable def mV (f:zd6→Tx) (o:Option zd6):Option V:=o.map fun x=>V.str (f x)
noncomputable abbrev hiS (t:Addr) (long short:Tx) (i:Nat) (x4 x5 x6 x7 x8 x9 x10 x11 x12:Option V) (m:Mem):St:=⟨[some (.obj t),some (.str long),some (.str short),some (.int i),x4,x5,x6,x7,x8,x9,x10,x11,x12],m⟩
noncomputable abbrev hiA (t:Addr) (long short:Tx) (i:Nat) (acc:Option zd6) (j:Int) (x7 x8:Option V) (m:Mem):St:=
 hiS t long short i (some (.str (zi0 long i))) (some (.str (com acc))) (some (.int j)) x7 x8 (mV (·.1) acc) (mV (·.2.1) acc) (mV (·.2.2.1) acc) (mV (·.2.2.2.1) acc) m
inductive HW (t:Addr) (long short:Tx) (i:Nat) (m:Mem) (n:Nat) (σ:St):Prop
 | mk (j:Int) (acc:Option zd6) (x7 x8:Option V) (k:Nat):σ=hiA t long short i acc j x7 x8 m→zga short (zi0 long i) k j→(zwj short (zi0 long i) k).foldl (zej long short i) acc=znq long short i→(com acc).length≤short.length→
   n=(if j=-1 then 0 else short.length+1-j.toNat)→HW t long short i m n σ
theorem z04 {j:Nat}{acc:Option zd6}{x7 x8:Option V}{QQ:Fl→St→Prop} (hP:CpIs P) (hT:zes P m t) (hl:sma long.length) (hs:sma short.length) (hi:i≤long.length) (hj:j≤short.length) (hc:(com acc).length≤short.length)
  (h: ∀r x7 x8,zga short (zi0 long i) (j+1) r→QQ .next (hiA t long short i (zej long short i acc j) r x7 x8 m)):zk P z84 QQ (hiA t long short i acc j x7 x8 m):=by
 have sm: ∀{x y:Tx},x.length≤y.length→sma y.length→sma x.length:=fun h1 h2=>ntr h1 h2
 have sd: ∀(x:Tx) (n:Nat),(x.drop n).length≤x.length:=fun x n=>by rw[Ap];exact Nat.sub_le ..
 have st: ∀(x:Tx) (n:Nat),(x.take n).length≤x.length:=fun x n=>by rw[An];exact Nat.min_le_right ..
 unfold z84
 refine za fun Q1 n1 _=>?_
 walk_at "D"
 refine⟨zln hT rfl,hl,?_⟩
 rw[zQ long hi]
 refine⟨hs,?_⟩
 rw[zQ short hj]
 refine hP.p _ _ _ _ _ (sm (sd _ _) hl) (sm (sd _ _) hs) (n1 _ (za fun Q2 n2 _=>?_))
 walk_at "D"
 refine⟨zln hT rfl,hl,?_⟩
 rw[zb4 long hi]
 refine⟨hs,?_⟩
 rw[zb4 short hj]
 refine hP.s _ _ _ _ _ (sm (st _ _) hl) (sm (st _ _) hs) (n2 _ (za fun Q3 n3 _=>zf fun K kt kf=>?_))
 walk_at "D"
 refine⟨sm hc hs,?_⟩
 have A:=zgk (long.take i) (short.take j)
 have B:=yZ (long.drop i) (short.drop j)
 rw[An,An] at A
 rw[Ap,Ap] at B
 have step: ∀(acc':Option zd6) x7 x8,acc'=zej long short i acc j→Q3 .next (hiA t long short i acc' j x7 x8 m):=fun acc' x7 x8 e=>by
  refine n3 _ (ssn ?_)
  walk_at "D"
  refine⟨trivial,hs,sm (st _ _) (sm (sd _ _) hl),by exact zm 4302962736 rfl,fun r hr=>?_⟩
  rw[show((j:Int)+1).toNat=j+1 by exact Ai (ze 297814348454750592546 rfl (Int.toNat_of_nonneg (zm 4302962736 rfl))) (ze 334350081914524726307 rfl (Int.toNat_of_nonneg (zm 4302962736 rfl)))] at hr
  rw[e]
  exact h r _ _ hr
 by_cases hb:(com acc).length<lcs (long.take i) (short.take j)+lcp (long.drop i) (short.drop j)
 ·have ha:some (zqk long short i j)=zej long short i acc j:=(if_pos hb).symm
  rw[Af (show((com acc).length:Int)<(lcs (long.take i) (short.take j):Nat)+(lcp (long.drop i) (short.drop j):Nat) by exact zj 5278624153637434819113 rfl hb)]
  refine kt _ ?_
  generalize hS:lcs (long.take i) (short.take j)=S at *
  generalize hR:lcp (long.drop i) (short.drop j)=R at *
  have s1:((j:Int)-(S:Nat))=((j-S:Nat):Int):=by grind
  have s2:((i:Int)-(S:Nat))=((i-S:Nat):Int):=by grind
  have s3:((j:Int)+(R:Nat))=((j+R:Nat):Int):=rfl
  have s4:((i:Int)+(R:Nat))=((i+R:Nat):Int):=rfl
  have e9:zqk long short i j=(long.take (i-S),long.drop (i+R),short.take (j-S),short.drop (j+R),(short.drop (j-S)).take S++(short.drop j).take R):=by unfold zqk;rw[hS,hR]
  unfold z9k
  refine za fun Q4 n4 _=>?_
  walk_at "D"
  rw[s1,s3,zir short (Nat.sub_le ..) hj,zir short (Bc ..) (by exact zT 120935456244064318399250984 rfl B.2 (Ab (ze 4952567644712 rfl hj))),show j-(j-S)=S by exact Ai (zT 22768606989969307449937688098 rfl s1 (Ab (zj 2596572090296966691 rfl s1))) (zT 62227945760779415572367023651 rfl s1 (Ab (zj 2596572090296966691 rfl s1))),Av]
  refine⟨hs,hs,sm (st _ _) (sm (sd _ _) hs),sm (st _ _) (sm (sd _ _) hs),n4 _ (za fun Q5 n5 _=>?_)⟩
  walk_at "D"
  rw[s2,zb4 long (by exact zT 22083859167737273609945640 rfl hi s2)]
  refine⟨hl,n5 _ (za fun Q6 n6 _=>?_)⟩
  walk_at "D"
  rw[s4,zQ long (by exact zT 120935456244064318399250984 rfl B.1 (Ab (ze 4952567644712 rfl hi)))]
  refine⟨hl,n6 _ (za fun Q7 n7 _=>?_)⟩
  walk_at "D"
  rw[s1,zb4 short (by exact zT 22083859167737273609945640 rfl hj s1)]
  refine⟨hs,n7 _ (ssn ?_)⟩
  walk_at "D"
  rw[s3,zQ short (by exact zT 120935456244064318399250984 rfl B.2 (Ab (ze 4952567644712 rfl hj)))]
  refine⟨hs,?_⟩
  have:=step (some (zqk long short i j)) (some (.int R)) (some (.int S)) ha
  rw[e9] at this
  exact this
 ·have ha:acc=zej long short i acc j:=(if_neg hb).symm
  rw[Ae (show ¬((com acc).length:Int)<(lcs (long.take i) (short.take j):Nat)+(lcp (long.drop i) (short.drop j):Nat) by exact Bk.mpr (zj 5278615617020566705196 rfl hb))]
  exact kf _ (zc (step acc _ _ ha))
theorem z1i (hP:CpIs P) (hT:zes P m t) (hl:sma long.length) (hs:sma short.length) (h0:0<long.length) (hi:i+long.length/4≤long.length) (q:Q (zgc (hmI long short i)) m):
  zk P zq5 (fun fl σ'=>Q (retV fl) σ'.mem) ⟨some (.obj t)::([V.str long,.str short,.int i].map some++List.replicate 9 none),m⟩:=by
 have hi':i≤long.length:=ntr (Bc ..) hi
 show zk P _ _ (hiS t long short i none none none none none none none none none m)
 unfold zq5
 refine za fun Q1 n1 r1=>?_
 walk_at "D"
 refine⟨hl,by decide,by (first|exact zag (by lia)|(unfold zr;lia)|(unfold zr;grind)),hl,?_⟩
 have e1:((i:Int)+(long.length:Int)/4)=((i+long.length/4:Nat):Int):=by grind
 rw[e1,zir _ (Bc ..) hi,Av]
 refine n1 _ (za fun Q2 n2 r2=>?_)
 walk_at "D"
 refine n2 _ (za fun Q3 n3 r3=>?_)
 walk_at "D"
 refine⟨trivial,hs,by rw[An,Ap];unfold sma at *;exact zj 43756489537543213166507828241583905922089512 rfl hl (Nat.div_mul_le_self _ _) (Nat.min_le_left _ _),fun r hr=>n3 _ (za fun Q4 n4 r4=>?_)⟩
 simp only[r_swhl]
 refine⟨HW t long short i m,⟨_,r,none,none,none,0,rfl,hr,rfl,Bq _,rfl⟩,?_⟩
 rintro n σ' ⟨j,acc,x7,x8,k,rfl,hk,hf,hc,rfl⟩
 walk_at "D"
 rcases hk with ⟨rfl,hno⟩ | ⟨j,rfl,hkj,hocc,hno⟩
 ·refine zgv (show(-1:Int)=-1 from rfl) (n4 _ (ssn (zf fun K kt kf=>?_)))
  rw[zux hno] at hf
  have hf:acc=znq long short i:=hf
  walk_at "D"
  refine⟨ntr hc hs,by unfold zr;unfold sma at hs;exact⟨zm 557856390312627249 rfl,ze 2633106174718266924715760445096439317032 rfl hs hc⟩,hl,?_⟩
  by_cases hb:long.length≤(com acc).length * 2
  ·rw[Af (show(long.length:Int)≤(com acc).length * 2 by exact ze 5704380175971844648 rfl hb)]
   refine kt _ (ssn ?_)
   have hq:hmI long short i=acc:=by unfold hmI;rw[←hf,if_pos hb]
   rw[hq] at q
   cases acc with
   | none=>exact absurd hb (by show ¬long.length≤0 * 2;exact Nat.not_le.mpr (zm 79182495285289 rfl h0))
   | some f=>
    unfold mV
    dsimp only[r_lit,r_var,r_bin,r_neg,r_not,r_list,r_tup,r_cmp,r_band,r_bor,r_idx,r_slc,r_attr,r_bi,r_call,r_me,r_imeth,r_comp,r_ch2,r_es0,r_es1,r_ch1,r_bo1,r_bo2,r_tnot,r_tband,r_tbor,r_tcmp,r_tvar,r_tcall,r_tme,r_tidx,r_tbi,r_ts0,r_ts1,r_tgs0,r_tgs1,r_sexpr,r_sassign,r_saug,r_sdel,r_sife,r_swhl,r_sfr,r_sret,r_ss0,r_ss1,tg_var,tg_tup,tg_idx,tg_slc,bin_add,bin_sub,bin_mul,bin_div,bin_mod,bin_cat,cmp_eqi,cmp_eqs,cmp_nei,cmp_nes,cmp_lt,cmp_le,cmp_gt,cmp_ge,tr_none,tr_bool,tr_int,tr_str,tr_tup,ix_str,ix_tup,sl_ii,sl_in,sl_ni,bi_lens,bi_lent,bi_min,bi_rng,bi_rng2,me_find,me_find2,ok_find,me_app,ok_app,me_ins,me_pop,me_join,me_ends,me_starts,ok_ins,ok_pop,ok_join,ok_ends,ok_starts,it_str,it_rng,neg_int,aug_addi,aug_adds,aug_subi,St.set,St.setAll,List.map_cons,List.map_nil,List.replicate,List.cons_append,List.nil_append,List.getElem?_cons_succ,List.getElem?_cons_zero,List.set_cons_succ,List.set_cons_zero,List.length_cons,List.length_nil,dreduceIte,retV,Option.map_some]
    exact q
  ·rw[Ae (show ¬(long.length:Int)≤(com acc).length * 2 by exact Int.not_le.mpr (ze 5693617057719986733 rfl hb))]
   refine kf _ (ssn ?_)
   have hq:hmI long short i=none:=by unfold hmI;rw[←hf,if_neg hb]
   rw[hq] at q
   exact q
 ·refine zj3 (show ¬((j:Nat):Int)=-1 by grind) ?_
  have hj:=zmz hocc
  refine z04 hP hT hl hs hi' hj hc fun r x7 x8 hr=>?_
  refine⟨_,?_,r,_,x7,x8,j+1,rfl,hr,by rw[zvp hkj hocc hno] at hf;exact hf,zhs hc hj,rfl⟩
  rw[if_neg (show ¬((j:Nat):Int)=-1 by omega),Int.toNat_natCast]
  rcases hr with ⟨rfl,_⟩ | ⟨j',rfl,hlt,ho,_⟩
  ·rw[if_pos rfl];exact zj 82211162245626938094322216 rfl hj (Ab (ze 4544286322917928 rfl hj))
  ·rw[if_neg (by grind),Int.toNat_natCast];have:=zmz ho;exact zd8 1443175407650981721228595219564534284948520 rfl hlt (Ab (ze 4544286322917928 rfl this)) (Ab (ze 4544286322917928 rfl hj))
end
noncomputable def zf8:List Str:=["self","text1","text2"]
noncomputable def zn:List Str:=["longtext","shorttext","diff_halfMatchI","hm1","hm2","hm","text1_a","text1_b","text2_a","text2_b","mid_common"]
noncomputable def zt:List (Str×NameKind):=[("len",.globalImplicit)]
noncomputable def zyx:List Sm:=[
  .ife (.cmp (.attr (.var 0) "Diff_Timeout") [.LtE] [.lit (.int 0)]) [
   .ret (.lit .none)] [],
  .ife (.cmp (.bi .len [.var 1]) [.Gt] [.bi .len [.var 2]]) [
   .assign [.tup [3,4]] (.tup [.var 1,.var 2])] [
   .assign [.tup [4,3]] (.tup [.var 1,.var 2])],
  .ife (.bor [.cmp (.bi .len [.var 3]) [.Lt] [.lit (.int 4)],.cmp (.bin .Mult (.bi .len [.var 4]) (.lit (.int 2))) [.Lt] [.bi .len [.var 3]]]) [
   .ret (.lit .none)] []]
noncomputable def zqj:List Sm:=[
  .assign [.var 6] (.lcall 5 [.var 3,.var 4,.bin .FloorDiv (.bin .Add (.bi .len [.var 3]) (.lit (.int 3))) (.lit (.int 4))]),
  .assign [.var 7] (.lcall 5 [.var 3,.var 4,.bin .FloorDiv (.bin .Add (.bi .len [.var 3]) (.lit (.int 1))) (.lit (.int 2))]),
  .ife (.band [.not (.var 6),.not (.var 7)]) [
   .ret (.lit .none)] [
   .ife (.not (.var 7)) [
    .assign [.var 8] (.var 6)] [
    .ife (.not (.var 6)) [
     .assign [.var 8] (.var 7)] [
     .ife (.cmp (.bi .len [.idx (.var 6) (.lit (.int 4))]) [.Gt] [.bi .len [.idx (.var 7) (.lit (.int 4))]]) [
      .assign [.var 8] (.var 6)] [
      .assign [.var 8] (.var 7)]]]],
  .ife (.cmp (.bi .len [.var 1]) [.Gt] [.bi .len [.var 2]]) [
   .assign [.tup [9,10,11,12,13]] (.var 8)] [
   .assign [.tup [11,12,9,10,13]] (.var 8)],
  .ret (.tup [.var 9,.var 10,.var 11,.var 12,.var 13])]
noncomputable def zpw:Option zd6→Option zd6→Option zd6
 | none,h=>h
 | some f,none=>some f
 | some f,some g=>if g.2.2.2.2.length<f.2.2.2.2.length then some f else some g
noncomputable def zo8 (long short:Tx):Option zd6:=zpw (hmI long short ((long.length+3)/4)) (hmI long short ((long.length+1)/2))
noncomputable def zhi (long short:Tx):Option zd6:=if long.length<4∨short.length * 2<long.length then none else zo8 long short
noncomputable def zrs (f:zd6):zd6:=(f.2.2.1,f.2.2.2.1,f.1,f.2.1,f.2.2.2.2)
noncomputable def zdc (a b:Tx):Option zd6:=if b.length<a.length then zhi a b else(zhi b a).map zrs
section
variable {P:PC}{Q:V→Mem→Prop}{m:Mem}{t d:Addr}{a b:Tx}{long short:Tx}{z:Int}
theorem zsx {i:Nat}{es:List Ex}{Q:V→St→Prop}{σ:St}:wpE P (.lcall i es) Q σ=match σ.loc[i]? with | some (some v)=>zk9 P es (fun vs σ₁=>P.loc v vs (fun r m=>Q r {σ₁ with mem:=m}) σ₁.mem) σ | _=>False:=rfl
theorem z7a {fs:List (Str×V)}{n:String}{v:V}{K:V→Prop} (h1:m t=some (.inst P.cls d)) (h2:m d=some (.dict fs)) (h3:yD n fs=some v) (h4:P.fld n=true) (q:K v):zhv P m (.obj t) n K:=
 ⟨d,fs,h1,h2,by rw[h3];exact⟨h4,q⟩⟩
noncomputable abbrev hmS (t:Addr) (a b:Tx) (x3 x4 x5 x6 x7 x8 x9 x10 x11 x12 x13:Option V) (m:Mem):St:=⟨[some (.obj t),some (.str a),some (.str b),x3,x4,x5,x6,x7,x8,x9,x10,x11,x12,x13],m⟩
theorem z19 {fs:List (Str×V)}{K:Fl→St→Prop} (ha:sma a.length) (hb:sma b.length) (hI:m t=some (.inst P.cls d)) (hD:m d=some (.dict fs)) (hL:yD "Diff_Timeout" fs=some (.int z)) (hf:P.fld "Diff_Timeout"=true)
  (k1:z≤0→∀σ',σ'.mem=m→K (.ret .none) σ') (k2:0<z→zdc a b=none→∀σ',σ'.mem=m→K (.ret .none) σ')
  (k3:0<z→∀long short,sma long.length→sma short.length→4≤long.length→(∀o,zo8 long short=o→zdc a b=if b.length<a.length then o else o.map zrs)→K .next (hmS t a b (some (.str long)) (some (.str short)) none none none none none none none none none m)):
  zk P zyx K ⟨some (.obj t)::([V.str a,.str b].map some++List.replicate 11 none),m⟩:=by
 show zk P _ _ (hmS t a b none none none none none none none none none none none m)
 unfold zyx
 refine za fun Q1 n1 r1=>zf fun K1 kt kf=>?_
 walk_at "D"
 refine z7a hI hD hL hf ?_
 refine(show K1 (decide (z≤0)) _ from ?_)
 by_cases hz:z≤0
 ·rw[Af hz]
  refine kt _ (ssn ?_)
  walk_at "D"
  exact r1 _ _ (k1 hz _ rfl)
 ·rw[Ae hz]
  replace hz:0<z:=Int.lt_of_not_ge hz
  refine kf _ (zc (n1 _ ?_))
  clear k1 kt kf n1 r1
  have go: ∀long short,sma long.length→sma short.length→zdc a b=(if b.length<a.length then zhi long short else(zhi long short).map zrs)→
    zk P [.ife (.bor [.cmp (.bi .len [.var 3]) [.Lt] [.lit (.int 4)],.cmp (.bin .Mult (.bi .len [.var 4]) (.lit (.int 2))) [.Lt] [.bi .len [.var 3]]]) [.ret (.lit .none)] []] K (hmS t a b (some (.str long)) (some (.str short)) none none none none none none none none none m):=fun long short h1 h2 he=>by
   have no:(long.length<4∨short.length * 2<long.length)→zdc a b=none:=fun q=>by
    rw[he];unfold zhi;rw[if_pos q];split<;>rfl
   refine ssn (zf fun K1 kt kf=>?_)
   walk_at "D"
   refine⟨h1,?_⟩
   by_cases c1:long.length<4
   ·rw[Af (show(long.length:Int)<4 by exact zm 140802326004265 rfl c1),if_neg (by decide)]
    refine kt _ (ssn ?_)
    walk_at "D"
    exact k2 hz (no (.inl c1)) _ rfl
   ·rw[Ae (show ¬(long.length:Int)<4 by exact Bk.mpr (zm 8384178896940 rfl c1)),if_pos rfl]
    refine⟨h2,by unfold zr;unfold sma at h2;exact⟨zm 557856390312627249 rfl,zm 313890716399935274048949644689960 rfl h2⟩,h1,?_⟩
    by_cases c2:short.length * 2<long.length
    ·rw[Af (show(short.length:Int) * 2<long.length by exact ze 5693617057719986729 rfl c2)]
     refine kt _ (ssn ?_)
     walk_at "D"
     exact k2 hz (no (.inr c2)) _ rfl
    ·rw[Ae (show ¬(short.length:Int) * 2<long.length by exact Bk.mpr (ze 5704380175971844652 rfl c2))]
     refine kf _ (zc (k3 hz long short h1 h2 (Az c1) fun o ho=>?_))
     rw[he]
     have:zhi long short=o:=(if_neg fun q=>q.elim c1 c2).trans ho
     rw[this]
  refine za fun Q2 n2 r2=>zf fun K1 kt kf=>?_
  walk_at "D"
  refine⟨ha,hb,?_⟩
  by_cases c:b.length<a.length
  ·rw[Af (Bj.mpr c)]
   refine kt _ (ssn ?_)
   walk_at "D"
   exact⟨rfl,n2 _ (go a b ha hb (by unfold zdc;rw[if_pos c,if_pos c]))⟩
  ·rw[Ae (fun q=>c (Bj.mp q))]
   refine kf _ (ssn ?_)
   walk_at "D"
   exact⟨rfl,n2 _ (go b a hb ha (by unfold zdc;rw[if_neg c,if_neg c]))⟩
theorem zni {i:Nat}{f:zd6} (h:hmI long short i=some f):f.2.2.2.2.length≤short.length:=by
 have key: ∀(js:List Nat) (acc:Option zd6),(∀j∈js,j≤short.length)→(com acc).length≤short.length→(com (js.foldl (zej long short i) acc)).length≤short.length:=fun js=>by
  induction js with
  | nil=>exact fun acc _ h=>h
  | cons j js ih=>exact fun acc hj h=>ih _ (fun k hk=>hj k (Ao _ hk)) (zhs h (hj j Aq))
 unfold hmI at h
 split at h
 ·have:=key (zwj short (zi0 long i) 0) none (fun j hj=>by
   unfold zwj at hj
   exact zmz (zif.mp (List.mem_filter.mp hj).2)) (Bq _)
  unfold znq at h
  rw[h] at this;exact this
 ·exact(Am _ h.symm).elim
theorem zxg {X Y:Prop} (x:X):if (!(none:Option zd6).isSome)=true then X else Y:=(if_pos (c:=(!(none:Option zd6).isSome)=true) rfl).mpr x
theorem zx5 {X Y:Prop}{f:zd6} (y:Y):if (!(some f).isSome)=true then X else Y:=(if_neg (c:=(!(some f).isSome)=true) Au).mpr y
theorem zhd {o:Option zd6}{K:Bool→Prop} (h:K o.isSome):zR m (zgc o) K:=by
 cases o with
 | none=>exact h
 | some f=>exact⟨by unfold sma;exact(by decide:5≤1000000),h⟩
theorem zye {f:Addr} (ha:sma a.length) (hb:sma b.length) (hl:sma long.length) (hs:sma short.length) (h4:4≤long.length)
  (hP: ∀(i:Nat) (Q:V→Mem→Prop),i+long.length/4≤long.length→Q (zgc (hmI long short i)) m→P.loc (.obj f) [.str long,.str short,.int i] Q m) (q:Q (zgc (if b.length<a.length then zo8 long short else(zo8 long short).map zrs)) m):
  zk P zqj (fun fl σ'=>Q (retV fl) σ'.mem) (hmS t a b (some (.str long)) (some (.str short)) (some (.obj f)) none none none none none none none none m):=by
 have i1:((long.length:Int)+3)/4=(((long.length+3)/4:Nat):Int):=by grind
 have i2:((long.length:Int)+1)/2=(((long.length+1)/2:Nat):Int):=by grind
 unfold zo8 at q
 unfold zqj
 refine za fun Q1 n1 r1=>?_
 dsimp only[r_lit,r_var,r_bin,r_neg,r_not,r_list,r_tup,r_cmp,r_band,r_bor,r_idx,r_slc,r_attr,r_bi,r_call,r_me,r_imeth,r_comp,r_ch2,r_es0,r_es1,r_ch1,r_bo1,r_bo2,r_tnot,r_tband,r_tbor,r_tcmp,r_tvar,r_tcall,r_tme,r_tidx,r_tbi,r_ts0,r_ts1,r_tgs0,r_tgs1,r_sexpr,r_sassign,r_saug,r_sdel,r_sife,r_swhl,r_sfr,r_sret,r_ss0,r_ss1,tg_var,tg_tup,tg_idx,tg_slc,bin_add,bin_sub,bin_mul,bin_div,bin_mod,bin_cat,cmp_eqi,cmp_eqs,cmp_nei,cmp_nes,cmp_lt,cmp_le,cmp_gt,cmp_ge,tr_none,tr_bool,tr_int,tr_str,tr_tup,ix_str,ix_tup,sl_ii,sl_in,sl_ni,bi_lens,bi_lent,bi_min,bi_rng,bi_rng2,me_find,me_find2,ok_find,me_app,ok_app,me_ins,me_pop,me_join,me_ends,me_starts,ok_ins,ok_pop,ok_join,ok_ends,ok_starts,it_str,it_rng,neg_int,aug_addi,aug_adds,aug_subi,St.set,St.setAll,List.map_cons,List.map_nil,List.replicate,List.cons_append,List.nil_append,List.getElem?_cons_succ,List.getElem?_cons_zero,List.set_cons_succ,List.set_cons_zero,List.length_cons,List.length_nil,dreduceIte,retV,zsx]
 refine⟨hl,by decide,by (first|exact zag (by lia)|(unfold zr;lia)|(unfold zr;grind)),?_⟩
 rw[i1]
 refine hP _ _ (by exact zj 723582177125585393636788488744 rfl (Nat.div_mul_le_self _ _) (Nat.div_mul_le_self _ _)) (n1 _ (za fun Q2 n2 r2=>?_))
 dsimp only[r_lit,r_var,r_bin,r_neg,r_not,r_list,r_tup,r_cmp,r_band,r_bor,r_idx,r_slc,r_attr,r_bi,r_call,r_me,r_imeth,r_comp,r_ch2,r_es0,r_es1,r_ch1,r_bo1,r_bo2,r_tnot,r_tband,r_tbor,r_tcmp,r_tvar,r_tcall,r_tme,r_tidx,r_tbi,r_ts0,r_ts1,r_tgs0,r_tgs1,r_sexpr,r_sassign,r_saug,r_sdel,r_sife,r_swhl,r_sfr,r_sret,r_ss0,r_ss1,tg_var,tg_tup,tg_idx,tg_slc,bin_add,bin_sub,bin_mul,bin_div,bin_mod,bin_cat,cmp_eqi,cmp_eqs,cmp_nei,cmp_nes,cmp_lt,cmp_le,cmp_gt,cmp_ge,tr_none,tr_bool,tr_int,tr_str,tr_tup,ix_str,ix_tup,sl_ii,sl_in,sl_ni,bi_lens,bi_lent,bi_min,bi_rng,bi_rng2,me_find,me_find2,ok_find,me_app,ok_app,me_ins,me_pop,me_join,me_ends,me_starts,ok_ins,ok_pop,ok_join,ok_ends,ok_starts,it_str,it_rng,neg_int,aug_addi,aug_adds,aug_subi,St.set,St.setAll,List.map_cons,List.map_nil,List.replicate,List.cons_append,List.nil_append,List.getElem?_cons_succ,List.getElem?_cons_zero,List.set_cons_succ,List.set_cons_zero,List.length_cons,List.length_nil,dreduceIte,retV,zsx]
 refine⟨hl,by decide,by (first|exact zag (by lia)|(unfold zr;lia)|(unfold zr;grind)),?_⟩
 rw[i2]
 refine hP _ _ (by exact zj 723582177125585393499349527112 rfl (Nat.div_mul_le_self _ _) (Nat.div_mul_le_self _ _)) (n2 _ (za fun Q3 n3 r3=>zf fun K1 kt kf=>?_))
 have s1:=fun f=>@zni long short ((long.length+3)/4) f
 have s2:=fun f=>@zni long short ((long.length+1)/2) f
 generalize hmI long short ((long.length+3)/4)=h1 at *
 generalize hmI long short ((long.length+1)/2)=h2 at *
 have fin: ∀g:zd6,zpw h1 h2=some g→Q3 .next (hmS t a b (some (.str long)) (some (.str short)) (some (.obj f)) (some (zgc h1)) (some (zgc h2)) (some (zgc (some g))) none none none none none m):=fun g hg=>by
  rw[hg] at q
  refine n3 _ (za fun Q4 n4 r4=>zf fun K1 kt kf=>?_)
  walk_at "D"
  refine⟨ha,hb,?_⟩
  by_cases c:b.length<a.length
  ·rw[if_pos c] at q
   rw[Af (Bj.mpr c)]
   refine kt _ (ssn ?_)
   unfold zgc
   walk_at "D"
   refine⟨rfl,n4 _ (ssn ?_)⟩
   walk_at "D"
   exact q
  ·rw[if_neg c] at q
   rw[Ae (fun q=>c (Bj.mp q))]
   refine kf _ (ssn ?_)
   unfold zgc
   walk_at "D"
   refine⟨rfl,n4 _ (ssn ?_)⟩
   walk_at "D"
   exact q
 walk_at "D"
 refine zhd ?_
 cases h1 with
 | none=>
  refine zxg (zhd ?_)
  cases h2 with
  | none=>
   refine kt _ (ssn ?_)
   walk_at "D"
   refine r3 _ _ ?_
   rw[show zpw none none=none from rfl] at q
   have e:(if b.length<a.length then(none:Option zd6) else none.map zrs)=none:=by split<;>rfl
   rw[e] at q
   exact q
  | some g=>
   refine kf _ (ssn (zf fun K1 kt kf=>?_))
   walk_at "D"
   refine zhd (kf _ (ssn (zf fun K1 kt kf=>?_)))
   walk_at "D"
   refine zhd (kt _ (ssn ?_))
   walk_at "D"
   exact fin g rfl
 | some f1=>
  refine zx5 (kf _ (ssn (zf fun K1 kt kf=>?_)))
  walk_at "D"
  refine zhd ?_
  cases h2 with
  | none=>
   refine kt _ (ssn ?_)
   walk_at "D"
   exact fin f1 rfl
  | some g=>
   refine kf _ (ssn (zf fun K1 kt kf=>?_))
   walk_at "D"
   refine zhd (kf _ (ssn (zf fun K1 kt kf=>?_)))
   unfold zgc
   walk_at "D"
   refine⟨by (first|exact zag (by lia)|(unfold zr;lia)|(unfold zr;grind)),_,rfl,ntr (s1 _ rfl) hs,by (first|exact zag (by lia)|(unfold zr;lia)|(unfold zr;grind)),_,rfl,ntr (s2 _ rfl) hs,?_⟩
   walk_at "D"
   by_cases c:g.2.2.2.2.length<f1.2.2.2.2.length
   ·rw[Af (Bj.mpr c)]
    refine kt _ (ssn ?_)
    walk_at "D"
    exact fin f1 (if_pos c)
   ·rw[Ae (fun q=>c (Bj.mp q))]
    refine kf _ (ssn ?_)
    walk_at "D"
    exact fin g (if_neg c)
end
theorem zg3 {env:Env}{c:Addr}: ∀(names:List (Str×NameKind)) (acc:List (Str×Addr)),(∀x∈yK names,env.cells.lookup x=some c)→
  (forIn (m:=Sem) names acc fun p cs=>(if p.2==NameKind.free then(do let a ←cellOf env p.1;pure (ForInStep.yield ((p.1,a)::cs))) else pure (ForInStep.yield cs)))=pure (((yK names).map (·,c)).reverse++acc)
 | [],acc,_=>by simp only[List.forIn_nil];rfl
 | (x,k)::r,acc,h=>by
  rw[List.forIn_cons]
  cases hk:k==NameKind.free with
  | true=>
   have e:yK ((x,k)::r)=x::yK r:=by unfold yK;rw[List.filterMap_cons];simp[hk]
   rw[e] at h ⊢
   have hc:cellOf env x=pure c:=by unfold cellOf;rw[h x Aq]
   simp only[if_true,hc,pure_bind]
   rw[zg3 r _ fun y hy=>h y (Ao _ hy),List.map_cons,List.reverse_cons,Ah];rfl
  | false=>
   have e:yK ((x,k)::r)=yK r:=by unfold yK;rw[List.filterMap_cons];simp[hk]
   rw[e] at h ⊢
   simp only[Bool.false_eq_true,if_false,pure_bind]
   exact zg3 r _ h
theorem zo5 {scope:Scope}{env:Env}{c:Addr}{x:Str} (h:yK scope.names=[x]) (hc:env.cells.lookup x=some c):closureFor scope env=pure [(x,c)]:=by
 unfold closureFor
 have:=zg3 (env:=env) (c:=c) scope.names [] (by rw[h];intro y hy;rw[Bv] at hy;subst hy;exact hc)
 rw[h] at this
 simpa using this
theorem ztx: ∀{as:List Arg} (env:Env),(as.all fun a=>a.annotation.isNone)=true→annotationsOf as env=[]
 | [],_,_=>rfl
 | ⟨n,none,p⟩::r,env,h=>ztx (as:=r) env (zb h).2
 | ⟨n,some a,p⟩::r,env,h=>nomatch (zb h).1
noncomputable def zod:List Str:=["text1","text2"]
structure Nest where
 params:Arguments
 body:List Stmt
 scope:Scope
 pos:Pos
noncomputable def zal:Str:="diff_halfMatchI"
noncomputable def zqo (x:Str) (ds:List Expr) (r:Option Expr) (tp:List TypeParam) (doc:Option Scope) (b:Str):Bool:=x==zal&&(ds.isEmpty&&(r.isNone&&(tp.isEmpty&&(doc.isNone&&b==zal))))
noncomputable def zpq (x:Stmt):Option Nest:=if h:x.ctorIdx=0 then Stmt.FunctionDef.elim (motive_2:=fun _=>Option Nest) x h fun name ps bd ds r tp sc doc b pos=>if zqo name ds r tp doc b=true then some ⟨ps,bd,sc,pos⟩ else none else none
theorem zv2 {α:Type}{o:Option α} (h:o.isNone=true):o=none:=by cases o with
 | none=>rfl
 | some x=>cases h
theorem zmj {α:Type}{o:List α} (h:o.isEmpty=true):o=[]:=by cases o with
 | nil=>rfl
 | cons x l=>cases h
theorem z2s {x:Stmt}{n:Nest} (h:zpq x=some n):x= .FunctionDef zal n.params n.body [] none [] n.scope none zal n.pos:=by
 unfold zpq at h
 by_cases i:x.ctorIdx=0
 ·rw[dif_pos i] at h
  refine Stmt.FunctionDef.elim (motive_2:=fun x=> ∀i,Stmt.FunctionDef.elim (motive_2:=fun _=>Option Nest) x i (fun name ps bd ds r tp sc doc b pos=>if zqo name ds r tp doc b=true then some ⟨ps,bd,sc,pos⟩ else none)=some n→x= .FunctionDef zal n.params n.body [] none [] n.scope none zal n.pos) x i (fun name ps bd ds r tp sc doc b pos _ q=>?_) i h
  replace q:(if zqo name ds r tp doc b=true then some (⟨ps,bd,sc,pos⟩:Nest) else none)=some n:=q
  by_cases c:zqo name ds r tp doc b=true
  ·rw[if_pos c] at q
   cases q
   obtain⟨c1,c⟩:=zb c
   obtain⟨c2,c⟩:=zb c
   obtain⟨c3,c⟩:=zb c
   obtain⟨c4,c⟩:=zb c
   obtain⟨c5,c6⟩:=zb c
   rw[Bh.mp c1,zmj c2,zv2 c3,zmj c4,zv2 c5,Bh.mp c6]
  ·rw[if_neg c] at q;exact(Am _ q.symm).elim
 ·rw[dif_neg i] at h;exact(Am _ h.symm).elim
noncomputable def zyj (n:Nest) (fns meths:List String):Bool:=
 zrp n.params z7c&&(n.params.defaults.isEmpty&&(n.params.kw_defaults.isEmpty&&(n.params.args.all (fun a=>a.annotation.isNone)&&(!n.scope.isCoroutine&&(!n.scope.isGenerator&&(n.scope.names.all (fun p=>!(p.2== .cell)) &&
 (yK n.scope.names==[selfS]&&(zt7 n.scope (z7c++zta) zpm .free&&zda (zrf (z7c++zta) zpm fns meths) zq5 n.body))))))))
noncomputable def z3u (K:Frag) (f:Addr) (fns meths:List String) (c:Addr):Bool:=(z5c K f).any fun fd=>
 z89 K fd zf8&&(fd.defaults== .none&&(fd.closure.isEmpty&&(zpd fd&&(zro fd.scope.names==[selfS]&&(zt7 fd.scope (zod++zn) zt .cell&&(fd.code== .ref c &&
 (zda (zrf (zod++zn) zt fns meths) zyx ((zec fd).take 3)&&(zda (zrf (zod++zn) zt fns meths) zqj ((zec fd).drop 4) &&
 ((zec fd)[3]?.bind zpq).any fun n=>zyj n fns meths))))))))
noncomputable def z7h (K:Frag) (f:Addr):FuncData:=(z5c K f).getD default
noncomputable def zr5 (K:Frag) (f:Addr):Pos:=(((zec (z7h K f))[3]?.bind zpq).map (·.pos)).getD ⟨0,0,0,0⟩
noncomputable def hmQ (K:Frag) (f:Addr):Str:=(z7h K f).qualname++".<locals>."++zal
section
variable {G:GS}{A:Around}{cls:Addr}
theorem runI (B:Base G (za9 cls)) (hc:zkb G.K cls G.fns G.meths=true) (lv:Lv A 1):(pcM cls 0).run G A:=
 zfq (B.swap rfl rfl rfl) (fun _ _ _ _ _ h=>h.elim) (fun f _ vs Q m h=>zma B hc 0 A lv f vs Q m h) (fun _ _ _ _ h=>h.elim)
theorem cpIs:CpIs (pcM cls 0):=⟨fun s x y _ _ h1 h2 q=> .inl ⟨rfl,s,x,y,rfl,h1,h2,q⟩,fun s x y _ _ h1 h2 q=> .inr (.inl ⟨rfl,s,x,y,rfl,h1,h2,q⟩)⟩
theorem zr3 (B:Base G (za9 cls)) (hc:zkb G.K cls G.fns G.meths=true) {c t f c':Addr}{co:Obj}{n:Nest}{q:Str}{doc ctv:Value}{m:Mem}{long short:Tx}{i:Nat}{Q:V→Mem→Prop}
  (hco:co.data= .cell (some (.ref t))) (h:zyj n G.fns G.meths=true) (lv:Lv A 2) (hf:m f=some (.fn (fnM G zal q n.params n.body n.scope [(selfS,c)] doc c' ctv))) (hl:sma long.length) (hs:sma short.length) (h0:0<long.length) (hi:i+long.length/4≤long.length)
  (hT:zes (za9 cls) m t) (qq:Q (zgc (hmI long short i)) m):ziw (G.with c co) A (.ref f) [.str long,.str short,.int i] Q m:=by
 unfold zyj at h
 simp only[Cc,List.isEmpty_iff,Bh,Bool.not_eq_true'] at h
 refine bc fun z9=>?_
 obtain⟨p1,p2,p3,p4,p5,p6,p7,p8,p9,p10⟩:=h
 refine z9 ?_
 have bw:=B.with c co
 exact zy3 (P:=pcM cls 0) (a:=t) (ps:=z7c) (rest:=zta) (names:=zpm) (mine:=zq5) bw.gok bw.gbi (by show zO _ _ _ _=_;unfold zO;rw[if_pos rfl]) hco hf rfl p1 rfl rfl rfl rfl p9 p7 p5 p6 rfl p10 lv.room
  (fun env=>(lv.deeper env).rm) (fun env=>runI bw hc (lv.deeper env)) (fun _ h=>h) (fun _ h=>h) rfl (z1i cpIs hT hl hs h0 hi qq)
noncomputable def pcH (cls:Addr) (m:Mem) (f:Addr) (long short:Tx):PC:={za9 cls with
 loc:=fun v vs Q m'=>m'=m∧v= .obj f∧∃i:Nat,vs=[.str long,.str short,.int i]∧i+long.length/4≤long.length∧Q (zgc (hmI long short i)) m}
theorem z03 (B:Base G (za9 cls)) (hc:zkb G.K cls G.fns G.meths=true) {c91 P f:Addr} (h:z3u G.K f G.fns G.meths c91=true) (T:BM G) (C:CodeHd G.base c91 P) (lv:Lv A 3) {t d:Addr}{fs:List (Str×V)}{a b:Tx}{z:Int}{m:Mem}{Q:V→Mem→Prop}
  (h1:sma a.length) (h2:sma b.length) (hT:zes (za9 cls) m t) (hI:m t=some (.inst cls d)) (hD:m d=some (.dict fs)) (hL:yD "Diff_Timeout" fs=some (.int z)) (hP:m P=some (.tab (zr5 G.K f) (hmQ G.K f)))
  (q: ∀m',Gr m m'→Q (if z≤0 then .none else zgc (zdc a b)) m'):ziw G A (.ref f) [.obj t,.str a,.str b] Q m:=by
 refine bc fun z9=>?_
 obtain⟨fd,hfd,h⟩:=zj5 h
 refine z9 ?_
 have efd:z7h G.K f=fd:=by unfold z7h;rw[hfd];rfl
 simp only[Cc,List.isEmpty_iff,Bh] at h
 refine bc fun z9=>?_
 obtain⟨g1,g2,g3,g4,g5,g6,g7,g8,g9,g10⟩:=h
 refine z9 ?_
 refine bc fun z9=>?_
 obtain⟨n,hn,hi⟩:=zj5 g10
 refine z9 ?_
 refine bc fun z9=>?_
 obtain⟨x3,hx3,hnx⟩:=Option.bind_eq_some_iff.mp hn
 refine z9 ?_
 have hpos:zr5 G.K f=n.pos:=by unfold zr5;rw[efd,hn];rfl
 have F:=zvk g1
 have hb4:zec fd=(zec fd).take 3++(.FunctionDef zal n.params n.body [] none [] n.scope none zal n.pos::(zec fd).drop 4):=by
  obtain⟨hi3,e3⟩:=Ce.mp hx3
  have:=(Bb 3 (zec fd)).symm
  rw[Bw hi3,e3,z2s hnx] at this
  exact this
 have hgi:=hi
 unfold zyj at hgi
 simp only[Cc,List.isEmpty_iff,Bh,Bool.not_eq_true'] at hgi
 refine bc fun z9=>?_
 obtain⟨p1,p2,p3,p4,p5,p6,p7,p8,p9,p10⟩:=hgi
 refine z9 ?_
 refine zuk (ps:=zod) (rest:=zn) (names:=zt) (vs:=[.str a,.str b]) B.gok hfd F g2 g3 g5 g6 (zkn g4) lv.room rfl fun L c co hco hcl=>?_
 obtain⟨ok,cok⟩:=z0d (G:=G.with c co) (env:=callEnvC fd L f) (fns:=G.fns) (meths:=G.meths) g6 (.inl rfl) F.glb F.bui hcl (fun _ h=>h) (fun _ h=>h)
 have bw:=B.with c co
 have X:Cx (G.with c co) (A.deeper (callEnvC fd L f)) (za9 cls) ⟨callEnvC fd L f,zcq (zod++zn) selfS c⟩ (zrf (zod++zn) zt G.fns G.meths):=⟨bw.gok,bw.gbi,(lv.deeper _).rm,zzd bw,ok,cok⟩
 rw[hb4]
 refine zml X zyx _ g8 (z19 h1 h2 hI hD hL rfl (fun hz σ' e=>?_) (fun hz hn σ' e=>?_) fun hz long short hl hs h4 hb=>?_)
 ·have:=q m (.refl _)
  rw[if_pos hz] at this
  show Q .none σ'.mem
  rw[e];exact this
 ·have:=q m (.refl _)
  rw[if_neg (Int.not_le.mpr hz),hn] at this
  show Q .none σ'.mem
  rw[e];exact this
 ·show WF _ _ _ (execs (_::_) _) _ _
  have hq0:qualnameIn (callEnvC fd L f) zal zal=hmQ G.K f:=by
   have hk:(callEnvC fd L f).kindOf zal=some .local:=Bh.mp (Bo.mp (zb (zb (zb g6).2).2).1 zal (by decide +kernel))
   unfold qualnameIn
   rw[hk,if_neg (by decide)]
   unfold hmQ;rw[efd];rfl
  have ann:annTrees n.params none (callEnvC fd L f)=[]:=by
   have e1:=ztx (callEnvC fd L f) p4
   have e2:=(zmg p1).1
   rw[e2] at e1 ⊢
   unfold annTrees
   simp only[Ag,Option.toList] at *
   rw[e1];rfl
  intro frz s r
  rw[arm_execs_cons]
  have nest:=z5l (G:=G.with c co) (A:=A.deeper (callEnvC fd L f)) (Γ:=⟨callEnvC fd L f,zcq (zod++zn) selfS c⟩) (i:=5) (k:= .loc) (q:=hmQ G.K f) (pos:=n.pos) (clos:=[(selfS,c)])
   (σ:=hmS t a b (some (.str long)) (some (.str short)) none none none none none none none none none m)
   (Q:=fun fl σ'=>fl= .next∧∃fI c' ctv doc,m fI=none∧σ'=hmS t a b (some (.str long)) (some (.str short)) (some (.obj fI)) none none none none none none none none (upd m fI (.fn (fnM G zal (hmQ G.K f) n.params n.body n.scope [(selfS,c)] doc c' ctv))))
   bw.gok ok T g7 C p2 p3 ann hq0 (zo5 p8 hcl) rfl (fun _ h=>nomatch h) (by rw[←hpos];exact hP) (fun fI c' ctv doc hf=>⟨rfl,fI,c',ctv,doc,hf,rfl⟩)
  refine Ac (nest.then r fun cf fl σ₁ s₁ a1 r1 t1' w1=>?_)
  refine bc fun z9=>?_
  obtain⟨rfl,fI,c',ctv,doc,hfI,rfl⟩:=w1
  refine z9 ?_
  cases a1
  have g:Gr m (upd m fI (.fn (fnM G zal (hmQ G.K f) n.params n.body n.scope [(selfS,c)] doc c' ctv))):=Gr.new hfI _
  have hf2:upd m fI (.fn (fnM G zal (hmQ G.K f) n.params n.body n.scope [(selfS,c)] doc c' ctv)) fI=some (.fn (fnM G zal (hmQ G.K f) n.params n.body n.scope [(selfS,c)] doc c' ctv)):=ups _ _ _
  generalize upd m fI (.fn (fnM G zal (hmQ G.K f) n.params n.body n.scope [(selfS,c)] doc c' ctv))=m2 at *
  have run:(pcH cls m2 fI long short).run (G.with c co) (A.deeper (callEnvC fd L f)):=by
   refine zfq (bw.swap rfl rfl rfl) (fun _ _ _ _ _ h=>h.elim) (fun _ _ _ _ _ h=>h.elim) fun v vs Q' m'' hh=>?_
   refine bc fun z9=>?_
   obtain⟨rfl,rfl,i,rfl,hi9,qq⟩:=hh
   refine z9 ?_
   exact⟨fI,_,_,rfl,hf2,rfl,(zr3 B hc hco hi (lv.deeper _) hf2 hl hs (by exact zm 550234046504 rfl h4) hi9 (hT.gr g) qq).toS⟩
  have qf:=q m2 g
  rw[if_neg (Int.not_le.mpr hz),hb _ rfl] at qf
  exact Bu (zth zqj _ _ ⟨bw.gok,bw.gbi,(lv.deeper _).rm,run,ok,cok⟩ _ g9 _ _ (zye h1 h2 hl hs h4 (fun i Q' hi9 qq=>⟨rfl,rfl,i,rfl,hi9,qq⟩) qf) frz s₁ r1) (fun fl s₂ z=>z.after t1') fun _ _ x=>x
end
noncomputable def z7o (f:zd6):HM:=⟨f.1,f.2.1,f.2.2.1,f.2.2.2.1,f.2.2.2.2⟩
theorem zxx (x y:Tx):x.drop (x.length-lcs x y)=y.drop (y.length-lcs x y):=by
 have h:=yZ x.reverse y.reverse
 rw[zic,zic]
 exact congrArg List.reverse ((zah (lcp x.reverse y.reverse) x.reverse y.reverse h.1 h.2).mp (Al _))
theorem zyl (x y:Tx):x.take (lcp x y)=y.take (lcp x y):=(zah _ x y (yZ x y).1 (yZ x y).2).mp (Al _)
theorem z1y {long short:Tx}{i j:Nat} (hi:i≤long.length) (hj:j≤short.length):long=(zqk long short i j).1++(zqk long short i j).2.2.2.2++(zqk long short i j).2.1∧short=(zqk long short i j).2.2.1++(zqk long short i j).2.2.2.2++(zqk long short i j).2.2.2.1:=by
 have A:=zgk (long.take i) (short.take j)
 have e1:=zxx (long.take i) (short.take j)
 have e2:=zyl (long.drop i) (short.drop j)
 rw[An,An,Aw hi,Aw hj] at A e1
 unfold zqk
 dsimp only
 generalize lcs (long.take i) (short.take j)=S at *
 generalize lcp (long.drop i) (short.drop j)=R at *
 have part: ∀(x:Tx) (k:Nat),k≤x.length→S≤k→x=x.take (k-S)++((x.take k).drop (k-S)++(x.drop k).take R)++x.drop (k+R):=fun x k hk hS=>by
  have h1:x.take k=x.take (k-S)++(x.take k).drop (k-S):=by
   have:=(Bb (k-S) (x.take k)).symm
   rwa [List.take_take,Aw (Nat.sub_le ..)] at this
  have h2:x.drop k=(x.drop k).take R++x.drop (k+R):=by
   have:=(Bb R (x.drop k)).symm
   rwa [List.drop_drop] at this
  have h3:=(Bb k x).symm
  rw[h1,h2] at h3
  simp only[Ah] at h3 ⊢
  exact h3
 have e3:(short.drop (j-S)).take S=(short.take j).drop (j-S):=by
  rw[List.drop_take];congr 1;exact Ai (zT 121236725109153823063544874 rfl (Ab (ze 4952567644712 rfl A.2)) (Ab (zj 9575029436585002 rfl (Ab (ze 4952567644712 rfl A.2))))) (zT 83155561718923140130275883 rfl (Ab (ze 4952567644712 rfl A.2)) (Ab (zj 9575029436585002 rfl (Ab (ze 4952567644712 rfl A.2)))))
 rw[e3]
 refine⟨?_,part short j hj A.2⟩
 rw[←e1,←e2]
 exact part long i hi A.1
noncomputable def okF (long short:Tx) (f:zd6):Prop:=long=f.1++f.2.2.2.2++f.2.1∧short=f.2.2.1++f.2.2.2.2++f.2.2.2.1
theorem zzv {long short:Tx}{i:Nat}{f:zd6} (hi:i≤long.length) (h:hmI long short i=some f):okF long short f∧long.length≤f.2.2.2.2.length * 2:=by
 have key: ∀(js:List Nat) (acc:Option zd6),(∀j∈js,j≤short.length)→(∀g,acc=some g→okF long short g)→∀g,js.foldl (zej long short i) acc=some g→okF long short g:=fun js=>by
  induction js with
  | nil=>exact fun acc _ h=>h
  | cons j js ih=>
   refine fun acc hj h=>ih _ (fun k hk=>hj k (Ao _ hk)) fun g hg=>?_
   unfold zej at hg
   split at hg
   ·cases hg;exact z1y hi (hj j Aq)
   ·exact h g hg
 unfold hmI at h
 split at h
 ·rename_i q
  rw[h] at q
  refine⟨key (zwj short (zi0 long i) 0) none (fun j hj=>?_) (fun _ h=>nomatch h) f h,q⟩
  unfold zwj at hj
  exact zmz (zif.mp (List.mem_filter.mp hj).2)
 ·exact nomatch h
theorem zyo {long short:Tx}{f:zd6} (h4:4≤long.length) (h:zo8 long short=some f):okF long short f∧long.length≤f.2.2.2.2.length * 2:=by
 unfold zo8 at h
 have k1:=fun g=>@zzv long short ((long.length+3)/4) g (by exact ze 649248628841466408 rfl (Nat.div_mul_le_self _ _))
 have k2:=fun g=>@zzv long short ((long.length+1)/2) g (by exact ze 649178122658327080 rfl (Nat.div_mul_le_self _ _))
 generalize hmI long short ((long.length+3)/4)=h1 at *
 generalize hmI long short ((long.length+1)/2)=h2 at *
 unfold zpw at h
 split at h
 ·exact k2 f h
 ·exact k1 f h
 ·split at h<;>cases h
  ·exact k1 _ rfl
  ·exact k2 _ rfl
theorem ztt {a b:Tx}{f:zd6} (h:zdc a b=some f):HM.ok a b (z7o f)∧max a.length b.length≤f.2.2.2.2.length * 2:=by
 have main: ∀{long short:Tx} {g:zd6},zhi long short=some g→okF long short g∧long.length≤g.2.2.2.2.length * 2∧g.2.2.2.2≠[]:=fun {long short g} e=>by
  unfold zhi at e
  split at e
  ·exact(Am _ e.symm).elim
  ·rename_i q
   have h4:4≤long.length:=Az fun z=>q (.inl z)
   obtain⟨o,l⟩:=zyo h4 e
   exact⟨o,l,fun z=>by rw[z] at l;simp only[List.length_nil] at l;exact zm 1128103560691752 rfl h4 l⟩
 unfold zdc at h
 split at h
 ·rename_i c
  refine bc fun z9=>?_
  obtain⟨o,l,n⟩:=main h
  refine z9 ?_
  exact⟨⟨o.1,o.2,n⟩,by grind⟩
 ·rename_i c
  refine bc fun z9=>?_
  obtain⟨g,hg,rfl⟩:=Bn.mp h
  refine z9 ?_
  refine bc fun z9=>?_
  obtain⟨o,l,n⟩:=main hg
  refine z9 ?_
  exact⟨⟨o.2,o.1,n⟩,by unfold zrs;dsimp only;lia⟩
noncomputable def HT (z:Int) (a b:Tx) (r:Option HM):Prop:=r=if z≤0 then none else(zdc a b).map z7o
theorem z1h {G:GS}{cls:Addr} (B:Base G (za9 cls)) (hc:zkb G.K cls G.fns G.meths=true) {c91 P:Addr} (h:z3u G.K (meA G.K cls "diff_halfMatch") G.fns G.meths c91=true) (T:BM G) (C:CodeHd G.base c91 P) (z:Int):
  zpy G cls ⟨z,some (P,zr5 G.K (meA G.K cls "diff_halfMatch"),hmQ G.K (meA G.K cls "diff_halfMatch"))⟩ (HT z):=fun A lv t a b Q m hl ha hb hT q=>by
 have hT0:=hT.tool
 refine bc fun z9=>?_
 obtain⟨dd,fs,h1,h2,h3,h4,h5⟩:=hT
 refine z9 ?_
 refine(z03 B hc h T C (lv.less (by decide)) (by unfold sma;exact ze 4744088100555303625954344 rfl hl) (by unfold sma;exact ze 4744088101118253579375656 rfl hl) hT0 h1 h2 h4 (h5 _ _ _ rfl) fun m' g=>?_).toS
 have e:hmV (if z≤0 then none else(zdc a b).map z7o)=if z≤0 then .none else zgc (zdc a b):=by
  split
  ·rfl
  ·cases zdc a b<;>rfl
 rw[←e]
 refine q m' _ g rfl fun h9 hh=>?_
 split at hh
 ·exact(Am _ hh.symm).elim
 ·refine bc fun z9=>?_
  obtain⟨f,hf,rfl⟩:=Bn.mp hh
  refine z9 ?_
  exact(ztt hf).1
noncomputable def z41 (P sc:Addr) (o:Obj) (ns:List Int) (pos:Pos) (q:Str):Mem:=fun a=>if a=P then some (.tab pos q) else z7u sc o ns a
theorem zuq {g:Heap}{sc c P:Addr}{ol:Obj}{xs:Array Value}{n:Nat} (gl:g.get? sc=some ol) (dl:ol.data= .seq xs n) (h:CodeHd g c P):CodeHd (hideAll g [sc]) c P:=by
 refine bc fun z9=>?_
 obtain⟨o,vs,file,tf,flags,tg,inF,text,tt,e,r1,r2,r⟩:=h
 refine z9 ?_
 exact⟨o,vs,file,tf,flags,tg,inF,text,tt,zla gl dl e (fun xs n q=>by rw[r2] at q;cases q),r1,r2,r⟩
noncomputable def Kl (m m':Mem):Prop:= ∀y o,(∀fs,o≠ .dict fs)→m y=some o→m' y=some o
theorem Kl.refl (m:Mem):Kl m m:=fun _ _ _ h=>h
theorem Kl.trans {a b c:Mem} (h:Kl a b) (k:Kl b c):Kl a c:=fun y o n e=>k y o n (h y o n e)
theorem Kl.gr {a b:Mem} (h:Gr a b):Kl a b:=fun y o _ e=>h y o e
theorem Kl.l {a b:Mem} (h:Kl a b) {y:Addr}{vs:List V} (e:a y=some (.list vs)):b y=some (.list vs):=h y _ (fun _ h=>nomatch h) e
theorem zxl {prog:Program}{w:World}{p:Program}{loose:List Str}{mean:ExcName→Option Value}{mg mb:Str→Option Value}{K:Frag}{sc fa c P:Addr}{s:Shared}
  {vals:List Value} {ns:List Int} {R:Result→Shared→Prop} {fns meths:List String} {pos:Pos} {q:Str}
  (hT:TabsAt [(c,P)] s.heap) (X:K.In (ghostOf s.heap [(c,P)])) (T:Top p loose mean mg mb (ghostOf s.heap [(c,P)])) (hl:s.heap.IsList sc vals.toArray) (hI:IntsAre vals ns)
  (hbi:z4s K=true) (hnl:zvu K=true)
  (go: ∀(ol:Obj) (G:GS) (m:Mem),G.prog=prog→G.w=w→G.K=K→G.fns=fns→G.meths=meths→G.ok→G.bi→BM G→CodeHd G.base c P→m sc=some (.ro ol (ns.map V.int))→m P=some (.tab pos q)→ziw G callerA (.ref fa) [.obj sc] (fun r m'=>r= .bool true∧Kl m m') m)
  (hpost: ∀s':Shared,(∃h tk,s'={s with heap:=h,toks:=tk})→(∀b o,(ghostOf s.heap [(c,P)]).get? b=some o→s'.heap.get? b=some o)→(∃ps,s'.heap.get? P=some (tabObj ps))→R (.ok (.ret (.bool true))) s'):
  codeAny (model prog w) callerA (.call (.ref fa) ⟨[.ref sc],[]⟩) R s:=by
 obtain⟨ol,gl,cl,nl,dl⟩:=ghost_list hT hl
 have hC:=(ghost_code hT).1
 have hPs:s.heap.get? P=some (tabObj #[]):=(hT _ (Bv.mpr rfl)).2
 have hPg:(ghostOf s.heap [(c,P)]).get? P=none:=hideAll_none _ (Bv.mpr rfl)
 generalize hg:ghostOf s.heap [(c,P)]=g at X T gl hpost hC hPg
 have kg: ∀b o,g.get? b=some o→s.heap.get? b=some o:=fun b o e=>of_hideAll _ (hg▸e)
 have hsc:(hideAll g [sc]).get? sc=none:=hideAll_none _ (Bv.mpr rfl)
 have hP2:(hideAll g [sc]).get? P=none:=by
  cases z:(hideAll g [sc]).get? P with
  | none=>rfl
  | some o=>have:=of_hideAll _ z;rw[hPg] at this;cases this
 have hne:sc≠P:=fun z=>by rw[z,hPg] at gl;exact(Am _ gl.symm).elim
 let G:GS:=⟨prog,w,s,hideAll g [sc],(hideAll g [sc]).get?,mg,mb,K,fns,meths⟩
 have gok:G.ok:=⟨zpb gl dl T.g,zpb gl dl T.b,let ⟨mc,a,r⟩:=T.nolimit;⟨mc,zpb gl dl a,r⟩,z4t X hnl gl cl⟩
 have gbi:G.bi:=⟨fun b=>⟨mg_none_of X T.g (Bh.mp (Bo.mp hbi b.name (z7z b))),(T.builtins _ (by cases b<;>decide +kernel)).trans (z3h b)⟩⟩
 have bm:BM G:=by
  obtain⟨bm,ob,b1,b2,b3,b4,b5,b6⟩:=T.bmain
  exact⟨bm,ob,b1,b2,zla gl dl b3 (fun xs n q=>by rw[b6] at q;cases q),b4,b5,b6⟩
 have inv: ∀{a:Addr} {o:O},z41 P sc ol ns pos q a=some o→(a=P∧O.tab pos q=o)∨(a=sc∧O.ro ol (ns.map V.int)=o):=fun {a o} e=>by
  unfold z41 at e
  split at e
  ·rename_i z;exact .inl ⟨z,Option.some.inj e⟩
  ·exact .inr (zy1 e)
 have m1:z41 P sc ol ns pos q P=some (.tab pos q):=if_pos rfl
 have m2:z41 P sc ol ns pos q sc=some (.ro ol (ns.map V.int)):=(if_neg hne).trans (if_pos rfl)
 have rp:Rp G (hideAll g [sc]).get? (z41 P sc ol ns pos q) s:=by
  refine⟨⟨s.heap,s.toks,rfl⟩,fun _ _ e=>e,fun _ _ e=>e,fun b o e=>kg _ _ (of_hideAll _ e),fun a o e=>?_,fun a o e=>?_,?_⟩
  ·rcases inv e with ⟨rfl,rfl⟩ | ⟨rfl,rfl⟩
   ·exact .tab0 hPs
   ·exact .ro (kg _ _ gl) cl dl (zw0 hI)
  ·rcases inv e with ⟨rfl,rfl⟩ | ⟨rfl,rfl⟩
   ·exact hP2
   ·exact hsc
  ·show(hideAll g [sc]).objs.size≤_
   rw[hideAll_size,←hg,hideAll_size];exact Al _
 refine codeAny_mono (go ol G _ rfl rfl rfl rfl rfl gok gbi bm (zuq gl dl hC) m2 m1 _ s [.ref sc] rp (.cons (.obj sc) .nil)) fun r s' h=>?_
 rcases r with e | (_ | _ | _ | v)
 ·exact h.elim
 ·exact h.elim
 ·exact h.elim
 ·exact h.elim
 ·obtain⟨v',m',a,r1,t1,rfl,gr⟩:=h
  cases a
  refine hpost s' r1.same (fun b o e=>?_) ?_
  ·by_cases hb:b=sc
   ·subst hb
    obtain rfl:=Option.some.inj (gl.symm.trans e)
    cases r1.hmem _ _ (gr _ _ (by intro _ h;cases h) m2) with
    | ro g' _ _ _=>exact g'
   ·exact r1.hfrz b o (hideAll_get _ e (fun q=>hb (Bv.mp q)))
  ·cases r1.hmem _ _ (gr _ _ (by intro _ h;cases h) m1) with
   | tab0 g=>exact⟨_,g⟩
   | tab1 g _ _=>exact⟨_,g⟩
abbrev KS:=Bool×Bool
noncomputable def stp (p:z8) (s:KS):KS:=if p.1=0 then(false,false) else(s.1||p.1==-1,s.2||p.1==1)
noncomputable def ldF (r:Row) (s:KS):KS:=r.foldr stp s
noncomputable def trF (s:KS) (r:Row):KS:=r.foldl (fun s p=>stp p s) s
noncomputable abbrev zcg (r:Row):KS:=trF (false,false) r
noncomputable abbrev zfp (r:Row):KS:=ldF r (false,false)
noncomputable def bn (s:KS):Nat:=s.1.toNat+s.2.toNat
noncomputable def mkd (c n:Nat) (t:Tx):Prop:=n=4∧t.length<c∨n=3∧2 * t.length<c
noncomputable def leS (s s':KS):Prop:=(s.1=true→s'.1=true)∧(s.2=true→s'.2=true)
theorem leS.refl (s:KS):leS s s:=⟨id,id⟩
theorem leS.no (s:KS):leS (false,false) s:=⟨fun h=>(nomatch h),fun h=>(nomatch h)⟩
theorem leS.yes (s:KS):leS s (true,true):=⟨fun _=>rfl,fun _=>rfl⟩
theorem zq4 {s s':KS} (p:z8) (h:leS s s'):leS (stp p s) (stp p s'):=by
 unfold stp
 split
 ·exact .refl _
 ·exact⟨fun q=>(Ca _ _).mpr (((Ca _ _).mp q).imp h.1 id),fun q=>(Ca _ _).mpr (((Ca _ _).mp q).imp h.2 id)⟩
theorem zkt {a b:Bool} (h:a=true→b=true):a.toNat≤b.toNat:=by
 cases a with
 | false=>exact Bq _
 | true=>rw[h rfl];exact Al _
theorem zl0 {s s':KS} (h:leS s s'):bn s≤bn s':=Nat.add_le_add (zkt h.1) (zkt h.2)
theorem zmb (s:KS):bn s≤2:=zl0 (leS.yes s)
theorem zpv {c n n':Nat}{t:Tx} (h:mkd c n t) (l:n≤n') (l4:n'≤4):mkd c n' t:=by
 rcases h with ⟨e,h⟩ | ⟨e,h⟩
 ·exact .inl ⟨Ai l4 (e▸l),h⟩
 ·rw[e] at l
  rcases Nat.lt_or_ge 3 n' with q | q
  ·exact .inl ⟨Ai l4 q,Nat.lt_of_le_of_lt (Nat.le_mul_of_pos_left _ (by decide)) h⟩
  ·exact .inr ⟨Ai q l,h⟩
theorem zs4 {c n:Nat}{t:Tx} (h:n≤2): ¬mkd c n t:=fun q=>by
 rcases q with ⟨e,_⟩ | ⟨e,_⟩<;>(rw[e] at h;exact absurd h (by decide))
theorem z38 {c n:Nat}{t:Tx} (h:mkd c n t):t.length<c:=h.elim (fun q=>q.2) fun q=>Nat.lt_of_le_of_lt (Nat.le_mul_of_pos_left _ (by decide)) q.2
theorem zjx (a b:Row) (s:KS):ldF (a++b) s=ldF a (ldF b s):=List.foldr_append
theorem zog (a b:Row) (s:KS):trF s (a++b)=trF (trF s a) b:=List.foldl_append
theorem z0m (a:Row) (s:KS):ldF a.reverse s=trF s a:=List.foldr_reverse
inductive Dom:Row→Row→Prop
 | nil:Dom [] []
 | cons (p:z8) {R S:Row}:Dom R S→Dom (p::R) (p::S)
 | split (t:Tx) {R S:Row}:Dom R S→Dom ((0,t)::R) ((-1,t)::(1,t)::S)
theorem Dom.refl: ∀r:Row,Dom r r
 | []=> .nil
 | p::r=> .cons p (.refl r)
theorem Dom.app {a b a' b':Row} (h:Dom a b) (k:Dom a' b'):Dom (a++a') (b++b'):=by
 induction h with
 | nil=>exact k
 | cons p _ ih=>exact .cons p ih
 | split t _ ih=>exact .split t ih
theorem Dom.trans {a b c:Row} (h:Dom a b) (k:Dom b c):Dom a c:=by
 induction h generalizing c with
 | nil=>exact k
 | cons p h ih=>
  cases k with
  | cons _ k=>exact .cons p (ih k)
  | split t k=>exact .split t (ih k)
 | split t h ih=>
  cases k with
  | cons _ k=>cases k with
   | cons _ k=>exact .split t (ih k)
theorem Dom.len {a b:Row} (h:Dom a b):a.length≤b.length∧(a.length=b.length→a=b):=by
 induction h with
 | nil=>exact⟨Al _,fun _=>rfl⟩
 | cons p h ih=>exact⟨Be ih.1,fun e=>by rw[ih.2 (Nat.succ.inj e)]⟩
 | split t h ih=>exact⟨Nat.le_succ_of_le (Be ih.1),fun e=>absurd (Nat.succ.inj e) (Nat.ne_of_lt (Nat.lt_succ_of_le ih.1))⟩
theorem Dom.eq {a b:Row} (h:Dom a b) (k:Dom b a):a=b:=h.len.2 (Ai h.len.1 k.len.1)
theorem Dom.inv {a b:Row}: ∀{r:Row},Dom (a++b) r→∃a' b',r=a'++b'∧Dom a a'∧Dom b b':=by
 induction a with
 | nil=>exact fun {r} h=>⟨[],r,rfl,.nil,h⟩
 | cons p a ih=>
  intro r h
  cases h with
  | cons _ h=>obtain⟨a',b',rfl,h1,h2⟩:=ih h;exact⟨p::a',b',rfl,.cons p h1,h2⟩
  | split t h=>obtain⟨a',b',rfl,h1,h2⟩:=ih h;exact⟨_::_::a',b',rfl,.split t h1,h2⟩
theorem Dom.ld {a b:Row} (h:Dom a b): ∀{s s':KS},leS s s'→leS (ldF a s) (ldF b s'):=by
 induction h with
 | nil=>exact fun h=>h
 | cons p _ ih=>exact fun h=>zq4 p (ih h)
 | split t _ ih=>exact fun h=>leS.no _
theorem Dom.tr {a b:Row} (h:Dom a b): ∀{s s':KS},leS s s'→leS (trF s a) (trF s' b):=by
 induction h with
 | nil=>exact fun h=>h
 | cons p _ ih=>exact fun h=>ih (zq4 p h)
 | split t _ ih=>exact fun h=>ih (leS.no _)
noncomputable def zb8 (c:Nat) (A:Row) (t:Tx) (B:Row):Prop:=mkd c (bn (zcg A)+bn (zfp B)) t
noncomputable def ze5 (c:Nat) (R:Row):Prop:= ∀A t B,R=A++(0,t)::B→¬zb8 c A t B
theorem zb8.mono {c:Nat}{A A' B B':Row}{t:Tx} (h:zb8 c A t B) (hA:Dom A A') (hB:Dom B B'):zb8 c A' t B':=
 zpv h (Nat.add_le_add (zl0 (hA.tr (.refl _))) (zl0 (hB.ld (.refl _)))) (Nat.add_le_add (zmb _) (zmb _))
theorem Dom.step {c:Nat}{A B S:Row}{t:Tx} (h:Dom (A++(0,t)::B) S) (hS:ze5 c S) (hm:zb8 c A t B):Dom (A++(-1,t)::(1,t)::B) S:=by
 obtain⟨A',X,rfl,hA,hX⟩:=h.inv
 cases hX with
 | cons _ hB=>exact(hS _ _ _ rfl (hm.mono hA hB)).elim
 | split _ hB=>exact hA.app (.cons _ (.cons _ hB))
structure Fin (c:Nat) (R S:Row):Prop where
 d:Dom R S
 cl:ze5 c S
 le: ∀X,ze5 c X→Dom R X→Dom S X
theorem Fin.uniq {c:Nat}{R S S':Row} (h:Fin c R S) (h':Fin c R S'):S=S':=(h.le _ h'.cl h'.d).eq (h'.le _ h.cl h.d)
noncomputable def spr (c:Nat):Row→Row→Row
 | _,[]=>[]
 | A,p::B=>(open Classical in if p.1=0∧zb8 c A p.2 B then[(-1,p.2),(1,p.2)] else[p])++spr c (A++[p]) B
theorem zn8 {c:Nat}{A B:Row}{t:Tx} (h:zb8 c A t B):spr c A ((0,t)::B)=(-1,t)::(1,t)::spr c (A++[(0,t)]) B:=congrArg (·++_) (if_pos ⟨rfl,h⟩)
theorem zrd {c:Nat}{A B:Row}{p:z8} (h: ¬(p.1=0∧zb8 c A p.2 B)):spr c A (p::B)=p::spr c (A++[p]) B:=congrArg (·++_) (if_neg h)
theorem zqf (c:Nat) (A B:Row) (p:z8):(∃t,p=(0,t)∧zb8 c A t B)∨¬(p.1=0∧zb8 c A p.2 B):=by
 obtain⟨k,t⟩:=p
 by_cases h:k=0∧zb8 c A t B
 ·obtain⟨rfl,h⟩:=h;exact .inl ⟨t,rfl,h⟩
 ·exact .inr h
theorem zfm (c:Nat): ∀(B A:Row),Dom B (spr c A B)
 | [],A=> .nil
 | p::B,A=>by
  rcases zqf c A B p with ⟨t,rfl,h⟩ | h
  ·rw[zn8 h];exact .split t (zfm c B _)
  ·rw[zrd h];exact .cons p (zfm c B _)
theorem z68 {c:Nat}{B SB:Row} (h:Dom B SB): ∀{A SA:Row},Dom A SA→ze5 c (SA++SB)→Dom (spr c A B) SB:=by
 induction h with
 | nil=>exact fun _ _=> .nil
 | @cons p R S h ih=>
  intro A SA hA hC
  have i:=ih (hA.app (.cons p .nil)) (by rw[Ah];exact hC)
  rcases zqf c A R p with ⟨t,rfl,m⟩ | q
  ·exact(hC _ _ _ rfl (m.mono hA h)).elim
  ·rw[zrd q];exact .cons p i
 | @split t R S h ih=>
  intro A SA hA hC
  have i:=ih (hA.app (.split t .nil)) (by rw[Ah];exact hC)
  rcases zqf c A R (0,t) with ⟨t',e,m⟩ | q
  ·cases e;rw[zn8 m];exact .cons _ (.cons _ i)
  ·rw[zrd q];exact .split t i
theorem zk2 {c:Nat}: ∀{B A:Row},(spr c A B).length=B.length→∀A' t B',B=A'++(0,t)::B'→¬zb8 c (A++A') t B'
 | [],A,_,A',t,B',e=>by cases A'<;>cases e
 | p::B,A,h,A',t,B',e=>by
  have l:=(zfm c B (A++[p])).len.1
  rcases zqf c A B p with ⟨t,rfl,m⟩ | q
  ·rw[zn8 m] at h
   exact(Nat.ne_of_gt (Nat.lt_succ_of_le l) (Nat.succ.inj h)).elim
  ·rw[zrd q] at h
   cases A' with
   | nil=>
    cases e
    rw[Ag]
    exact fun z=>q ⟨rfl,z⟩
   | cons p' A'=>
    cases e
    rw[By]
    exact zk2 (Nat.succ.inj h) A' t B' rfl
theorem zyb {c:Nat}{R0 R:Row} (d:Dom R0 R) (le: ∀X,ze5 c X→Dom R0 X→Dom R X):Dom R0 (spr c [] R)∧(∀X,ze5 c X→Dom R0 X→Dom (spr c [] R) X)∧((spr c [] R).length=R.length→spr c [] R=R∧Fin c R0 R):=
 ⟨d.trans (zfm c R []),fun X hX hd=>z68 (le X hX hd) .nil hX,fun e=>⟨((zfm c R []).len.2 e.symm).symm,d,fun A t B q=>zk2 e A t B q,le⟩⟩
noncomputable def Eds (E:Row):Prop:= ∀p∈E,p.1≠0
theorem zuy {E A1 A2:Row}{s:Tx} (h:Eds E) (e:E=A1++(0,s)::A2) {M:Prop}:M:=(h (0,s) (e▸List.mem_append_right _ Aq) rfl).elim
theorem z5s (E:Row):Eds E∨∃A1 s A2,E=A1++(0,s)::A2:=by
 induction E with
 | nil=>exact .inl fun _ h=>nomatch h
 | cons p E ih=>
  obtain⟨k,s⟩:=p
  by_cases q:k=0
  ·subst q;exact .inr ⟨[],s,E,rfl⟩
  ·rcases ih with h | ⟨A1,t,A2,rfl⟩
   ·exact .inl (List.forall_mem_cons.mpr ⟨q,h⟩)
   ·exact .inr ⟨_::A1,t,A2,rfl⟩
noncomputable def orS (s t:KS):KS:=(s.1||t.1,s.2||t.2)
theorem zzh {p:z8} (h:p.1≠0) (s t:KS):stp p (orS s t)=orS s (stp p t)∧orS (stp p s) t=orS s (stp p t):=by
 unfold stp orS
 rw[if_neg h,if_neg h,if_neg h]
 exact⟨Prod.ext (Bool.or_assoc _ _ _) (Bool.or_assoc _ _ _),Prod.ext (show((s.1||p.1==-1)||t.1)=(s.1||(t.1||p.1==-1)) by rw[Bool.or_assoc,Bool.or_comm (p.1==-1)]) (show((s.2||p.1==1)||t.2)=(s.2||(t.2||p.1==1)) by rw[Bool.or_assoc,Bool.or_comm (p.1==1)])⟩
theorem z5h (s:KS):orS s (false,false)=s:=Prod.ext (Bool.or_false _) (Bool.or_false _)
theorem zei: ∀{E:Row},Eds E→∀s,ldF E s=orS s (zfp E)∧trF s E=orS s (zfp E)
 | [],_,s=>⟨(z5h s).symm,(z5h s).symm⟩
 | p::E,h,s=>by
  have hp:=h p Aq
  have ih:=zei (E:=E) fun q hq=>h q (Ao _ hq)
  show stp p (ldF E s)=orS s (stp p (zfp E))∧trF (stp p s) E=orS s (stp p (zfp E))
  rw[(ih s).1,(ih (stp p s)).2,(zzh hp _ _).1,(zzh hp _ _).2]
  exact⟨rfl,rfl⟩
theorem zp9 {A1 A2:Row}{s:Tx} (l:KS):ldF (A1++(0,s)::A2) l=ldF A1 (false,false):=zjx A1 _ l
theorem zk8 {A1 A2:Row}{s:Tx}:zcg (A1++(0,s)::A2)=trF (false,false) A2:=zog A1 _ _
noncomputable def UM (c:Nat) (A:Row) (l:KS):Prop:= ∀A1 s A2,A=A1++(0,s)::A2→¬mkd c (bn (zcg A1)+bn (ldF A2 l)) s
theorem zy6 {A E A1 A2:Row}{t s:Tx} (e:A++(0,t)::E=A1++(0,s)::A2) (hE:Eds E):(A1=A∧s=t∧A2=E)∨∃w,A=A1++(0,s)::w∧A2=w++(0,t)::E:=by
 rcases List.append_eq_append_iff.mp e with ⟨w,rfl,q⟩ | ⟨w,rfl,q⟩
 ·cases w with
  | nil=>cases q;exact .inl ⟨Ag _,rfl,rfl⟩
  | cons p w=>injection q with q1 q2;exact zuy hE q2
 ·cases w with
  | nil=>cases q;exact .inl ⟨(Ag _).symm,rfl,rfl⟩
  | cons p w=>cases q;exact .inr ⟨w,rfl,rfl⟩
theorem UM.snoc {c:Nat}{A E:Row}{t:Tx}{l:KS} (h:UM c A (false,false)) (hE:Eds E) (hm: ¬mkd c (bn (zcg A)+bn (ldF E l)) t):UM c (A++(0,t)::E) l:=fun A1 s A2 e=>by
 rcases zy6 e hE with ⟨rfl,rfl,rfl⟩ | ⟨w,rfl,rfl⟩
 ·exact hm
 ·rw[zp9];exact h _ _ _ rfl
theorem UM.run {c:Nat}{A E:Row}{l:KS} (h:UM c A (ldF E l)) (hE:Eds E):UM c (A++E) l:=fun A1 s A2 e=>by
 rcases List.append_eq_append_iff.mp e with ⟨w,rfl,q⟩ | ⟨w,rfl,q⟩
 ·exact zuy hE q
 ·cases w with
  | nil=>exact zuy (A1:=[]) hE q.symm
  | cons p w=>
   cases q
   show ¬mkd c (bn (zcg A1)+bn (ldF (w++E) l)) s
   rw[zjx];exact h _ _ _ rfl
theorem UM.full {c:Nat}{A:Row} (h:UM c A (false,false)) (ht:zcg A=(true,true)) (l:KS):UM c A l:=fun A1 s A2 e=>by
 subst e
 have hh:=h _ _ _ rfl
 rcases z5s A2 with hE | ⟨A3,x,A4,rfl⟩
 ·rw[zk8,(zei hE _).2] at ht
  have hl:zfp A2=(true,true):=by rw[←ht];exact Prod.ext (Bool.false_or _).symm (Bool.false_or _).symm
  rw[(zei hE l).1,hl,show orS l (true,true)=(true,true) from Prod.ext (Bool.or_true _) (Bool.or_true _)]
  rwa [show ldF A2 (false,false)=(true,true) from hl] at hh
 ·rw[zp9] at hh ⊢;exact hh
theorem UM.cut {c:Nat}{P A:Row}{w:Tx} (h:UM c (P++(0,w)::A) (false,false)) (hx: ∃A3 x A4,A=A3++(0,x)::A4) (l:KS):UM c (P++[(0,w)]) (ldF A l):=by
 obtain⟨A3,x,A4,rfl⟩:=hx
 refine UM.snoc (fun A1 s A2 e=>?_) (fun _ h=>nomatch h) ?_
 ·subst e
  have:=h A1 s (A2++(0,w)::(A3++(0,x)::A4)) (by rw[Ah];rfl)
  rwa [zp9] at this
 ·have:=h P w _ rfl
  rw[zp9] at this ⊢
  exact this
theorem UM.closed {c:Nat}{R:Row} (h:UM c R (false,false)):ze5 c R:=h
noncomputable def Stk (A:Row) (st:List Nat):Prop:=st.Pairwise (·<·)∧∀q∈st,∃A1 s A2,A=A1++(0,s)::A2∧A1.length=q
theorem Stk.nil (A:Row):Stk A []:=⟨.nil,fun _ h=>nomatch h⟩
theorem Stk.more {A:Row}{st:List Nat} (h:Stk A st) (B:Row):Stk (A++B) st:=⟨h.1,fun q hq=>let ⟨A1,s,A2,e,l⟩:=h.2 q hq;⟨A1,s,A2++B,by rw[e,Ah];rfl,l⟩⟩
theorem Stk.push {A:Row}{st:List Nat} (h:Stk A st) (u:Tx):Stk (A++[(0,u)]) (st++[A.length]):=by
 refine⟨List.pairwise_append.mpr ⟨h.1,List.pairwise_singleton _ _,fun q hq x hx=>?_⟩,fun q hq=>?_⟩
 ·obtain⟨A1,s,A2,e,rfl⟩:=h.2 q hq
  rw[Bv.mp hx,e,Aa]
  exact Nat.lt_add_of_pos_right (Br _)
 ·rcases List.mem_append.mp hq with hq | hq
  ·exact(h.more _).2 q hq
  ·exact⟨A,u,[],rfl,(Bv.mp hq).symm⟩
inductive Md (c:Nat) (A B:Row) (st:List Nat) (pre post:KS):Option Tx→Prop
 | no:UM c A (zfp B)→Md c A B st pre post none
 | some (t:Tx) (A0 E:Row) (st1:List Nat):A=A0++(0,t)::E→Eds E→st=st1++[A0.length]→pre=zcg A0→t≠[]→t.length<c→UM c A0 (false,false)→¬mkd c (bn pre+bn post) t→Md c A B st pre post (some t)
structure Eff (c:Nat) (R0 A B:Row) (ch:Bool) (st:List Nat) (last:Option Tx) (pre post:KS):Prop where
 d:Dom R0 (A++B)
 le: ∀X,ze5 c X→Dom R0 X→Dom (A++B) X
 c0:ch=false→A++B=R0
 c1:ch=true→R0.length<(A++B).length
 po:post=zcg A
 sk:Stk A st
 md:Md c A B st pre post last
section
variable {c:Nat}{R0 A B:Row}{ch:Bool}{st:List Nat}{last:Option Tx}{pre post pre':KS}{u t:Tx}{k:Int}
theorem Eff.start:Eff c R0 [] R0 false [] none pre (false,false):=⟨.refl _,fun _ _ h=>h,fun _=>rfl,(fun h=>nomatch h),rfl,.nil _,.no fun A1 _ _ e=>by cases A1<;>cases e⟩
theorem Eff.um (h:Eff c R0 A B ch st last pre post) (hB:zfp B=(false,false)):UM c A (false,false):=by
 obtain⟨_,_,_,_,po,_,md⟩:=h
 cases md with
 | no h=>rwa [hB] at h
 | some t A0 E st1 e hE _ hp _ _ hU hm=>
  subst e
  rw[zk8,(zei hE _).2,show orS (false,false) (zfp E)=zfp E from Prod.ext (Bool.false_or _) (Bool.false_or _)] at po
  rw[hp,po] at hm
  exact hU.snoc hE hm
theorem Eff.push (h:Eff c R0 A ((0,u)::B) ch st last pre post) (hu:u≠[]) (hc:u.length<c):Eff c R0 (A++[(0,u)]) B ch (st++[A.length]) (some u) post (false,false):=by
 have hU:=h.um rfl
 obtain⟨d,le,c0,c1,po,sk,_⟩:=h
 rw[By] at d le c0 c1
 refine⟨d,le,c0,c1,(zk8 (A1:=A) (s:=u) (A2:=[])).symm,sk.push u,.some u A [] st rfl (fun _ h=>nomatch h) rfl po hu hc hU (zs4 (zmb post))⟩
theorem Eff.bar (h:Eff c R0 A ((0,u)::B) ch st last pre post) (hc:u.length<c→post=(false,false)):Eff c R0 (A++[(0,u)]) B ch [] none pre' (false,false):=by
 have hU:=h.um rfl
 obtain⟨d,le,c0,c1,po,sk,_⟩:=h
 rw[By] at d le c0 c1
 refine⟨d,le,c0,c1,(zk8 (A1:=A) (s:=u) (A2:=[])).symm,.nil _,.no (hU.snoc (fun _ h=>nomatch h) fun q=>?_)⟩
 rw[←po,hc (z38 q),show bn (false,false)=0 from rfl,Nat.zero_add] at q
 exact zs4 (zmb _) q
theorem zl1 (A:Row) (p:z8) (s:KS):trF s (A++[p])=stp p (trF s A):=zog A [p] s
theorem Eff.pass (h:Eff c R0 A ((k,u)::B) ch st last pre post) (hk:k≠0) (hm: ∀t,last=some t→¬mkd c (bn pre+bn (stp (k,u) post)) t):Eff c R0 (A++[(k,u)]) B ch st last pre (stp (k,u) post):=by
 obtain⟨d,le,c0,c1,po,sk,md⟩:=h
 rw[By] at d le c0 c1
 refine⟨d,le,c0,c1,by rw[po];exact(zl1 _ _ _).symm,sk.more _,?_⟩
 cases md with
 | no h=>exact .no (UM.run (E:=[(k,u)]) (l:=zfp B) h fun p hp=>by rw[Bv.mp hp];exact hk)
 | some t A0 E st1 e hE hs hp ht hc hU _=>
  refine .some t A0 (E++[(k,u)]) st1 (by rw[e,Ah];rfl) (fun p hp=>?_) hs hp ht hc hU (hm t rfl)
  rcases List.mem_append.mp hp with hp | hp
  ·exact hE p hp
  ·rw[Bv.mp hp];exact hk
inductive Back (A0:Row) (st1:List Nat):List Nat→Row→Row→Prop
 | top (Y:Row):Back A0 st1 [] [] (A0++Y)
 | back (st3:List Nat) (x:Nat) (P A2 Y:Row) (w:Tx):st1=st3++[P.length]++[x]→A0=P++(0,w)::A2→Back A0 st1 (st3++[P.length]) (P++[(0,w)]) (A2++Y)
theorem z8g {P Y A1 A2:Row}{s:Tx} (e:P++Y=A1++(0,s)::A2) (h:A1.length<P.length): ∃w,P=A1++(0,s)::w:=by
 rcases List.append_eq_append_iff.mp e with ⟨w,rfl,_⟩ | ⟨w,rfl,q⟩
 ·rw[Aa] at h
  exact(Nat.not_lt.mpr (Bc _ _) h).elim
 ·cases w with
  | nil=>rw[Ag] at h;exact(Cd _ h).elim
  | cons p w=>cases q;exact⟨w,rfl⟩
theorem z8i {P Y A1 A2:Row}{s:Tx} (e:P++Y=A1++(0,s)::A2) (h:P.length≤A1.length): ∃w,Y=w++(0,s)::A2:=by
 rcases List.append_eq_append_iff.mp e with ⟨w,_,q⟩ | ⟨w,rfl,q⟩
 ·exact⟨w,q⟩
 ·rw[Aa] at h
  obtain rfl:w=[]:=List.length_eq_zero_iff.mp (Nat.le_zero.mp (Nat.le_of_add_le_add_left (show A1.length+w.length≤A1.length+0 from h)))
  exact⟨[],q.symm⟩
theorem Stk.cut {P Y:Row}{st:List Nat}{x:Nat} (h:Stk (P++Y) (st++[x])) (hx:x≤P.length):Stk P st:=by
 have pw:=List.pairwise_append.mp h.1
 refine⟨pw.1,fun q hq=>?_⟩
 obtain⟨A1,s,A2,e,rfl⟩:=h.2 q (List.mem_append_left _ hq)
 obtain⟨w,rfl⟩:=z8g e (Ba (pw.2.2 _ hq _ Aq) hx)
 exact⟨A1,s,w,rfl,rfl⟩
structure Cut (c:Nat) (R0 A0 E:Row) (t:Tx) (B:Row) (st1:List Nat) (pre:KS):Prop where
 hE:Eds E
 hp:pre=zcg A0
 hU:UM c A0 (false,false)
 sk:Stk A0 st1
 d:Dom R0 (A0++(-1,t)::(1,t)::(E++B))
 le: ∀X,ze5 c X→Dom R0 X→Dom (A0++(-1,t)::(1,t)::(E++B)) X
 c1:R0.length<(A0++(-1,t)::(1,t)::(E++B)).length
theorem z0o {a b:KS} (s:KS) (h:leS a b):leS (orS a s) (orS b s):=⟨fun q=>(Ca _ _).mpr (((Ca _ _).mp q).imp h.1 id),fun q=>(Ca _ _).mpr (((Ca _ _).mp q).imp h.2 id)⟩
theorem zw9 (s:KS):orS (false,false) s=s:=Prod.ext (Bool.false_or _) (Bool.false_or _)
theorem Eff.cut (h:Eff c R0 A ((k,u)::B) ch st (some t) pre post) (hk:k≠0) (hm:mkd c (bn pre+bn (stp (k,u) post)) t): ∃A0 E st1,A=A0++(0,t)::E∧st=st1++[A0.length]∧Cut c R0 A0 E t ((k,u)::B) st1 pre:=by
 obtain⟨d,le,c0,c1,po,sk,md⟩:=h
 cases md with
 | some t A0 E st1 e hE hs hp ht hc hU _=>
 subst e hs
 have eE:(A0++(0,t)::E)++(k,u)::B=A0++(0,t)::(E++(k,u)::B):=Ah _ _ _
 rw[eE] at d le
 have po2:post=zfp E:=by rw[po,zk8,(zei hE _).2,zw9]
 have hE':Eds (E++[(k,u)]):=fun p hp=>(List.mem_append.mp hp).elim (hE p) fun hp=>by rw[Bv.mp hp];exact hk
 have hM:zb8 c A0 t (E++(k,u)::B):=by
  refine zpv hm (Nat.add_le_add (by rw[hp];exact Al _) (zl0 ?_)) (Nat.add_le_add (zmb _) (zmb _))
  have q1:stp (k,u) post=zfp (E++[(k,u)]):=by
   rw[←zw9 (zfp (E++[(k,u)])),←(zei hE' (false,false)).2,zl1,(zei hE _).2,zw9,po2]
  have q2:zfp (E++(k,u)::B)=orS (zfp B) (zfp (E++[(k,u)])):=by
   rw[←(zei hE' (zfp B)).1,←zjx,←By]
  rw[q1,q2,←zw9 (zfp (E++[(k,u)]))]
  exact z0o _ (.no _)
 refine⟨A0,E,st1,rfl,rfl,hE,hp,hU,sk.cut (Al _),d.trans ((Dom.refl A0).app (.split t (.refl _))),fun X hX hd=>(le X hX hd).step hX hM,?_⟩
 have:=d.len.1
 rw[Aa,List.length_cons] at this ⊢
 exact Nat.lt_of_le_of_lt this (Cb _)
variable {A0 E X:Row}{st1:List Nat}
theorem Cut.full (h:Cut c R0 A0 E t B st1 (true,true)):Eff c R0 (A0++(-1,t)::(1,t)::E) B true [] none pre' (true,true):=by
 obtain⟨hE,hp,hU,_,d,le,c1⟩:=h
 have e2:A0++(-1,t)::(1,t)::(E++B)=(A0++(-1,t)::(1,t)::E)++B:=(Ah A0 ((-1,t)::(1,t)::E) B).symm
 rw[e2] at d le c1
 have hE':Eds ((-1,t)::(1,t)::E):=List.forall_mem_cons.mpr ⟨(by decide:(-1:Int)≠0),List.forall_mem_cons.mpr ⟨(by decide:(1:Int)≠0),hE⟩⟩
 refine⟨d,le,(fun h=>nomatch h),fun _=>c1,?_,.nil _,.no ((hU.full hp.symm _).run hE')⟩
 rw[zcg,zog,←zcg,←hp]
 show _=trF (true,true) E
 rw[(zei hE _).2];rfl
theorem Cut.back {st':List Nat}{A' B':Row} (h:Cut c R0 A0 E t B st1 pre) (hb:Back A0 st1 st' A' B') (e:A'++B'=A0++(-1,t)::(1,t)::(E++B)):Eff c R0 A' B' true st' none pre' (false,false):=by
 obtain⟨hE,_,hU,sk,d,le,c1⟩:=h
 rw[←e] at d le c1
 cases hb with
 | top Y=>exact⟨d,le,(fun h=>nomatch h),fun _=>c1,rfl,.nil _,.no fun A1 _ _ e=>by cases A1<;>cases e⟩
 | back st3 x P A2 Y w es eA=>
  subst eA es
  have l1:P.length<x:=(List.pairwise_append.mp sk.1).2.2 _ (List.mem_append_right _ Aq) _ Aq
  have hx: ∃A3 y A4,A2=A3++(0,y)::A4:=by
   obtain⟨A1,s,A3,e3,rfl⟩:=sk.2 x (List.mem_append_right _ Aq)
   rw[By] at e3
   obtain⟨w,rfl⟩:=z8i e3 (by rw[Aa];exact l1)
   exact⟨w,s,A3,rfl⟩
  have sk3:Stk (P++(0,w)::A2) (st3++[P.length]):=⟨(List.pairwise_append.mp sk.1).1,fun q hq=>sk.2 q (List.mem_append_left _ hq)⟩
  refine⟨d,le,(fun h=>nomatch h),fun _=>c1,(zk8 (A1:=P) (s:=w) (A2:=[])).symm,(sk3.cut (Al _)).push w,.no ?_⟩
  rw[show zfp (A2++Y)=ldF A2 (zfp Y) from zjx _ _ _]
  exact hU.cut hx _
theorem Eff.fin (h:Eff c R0 A [] ch st last pre post):Fin c R0 A∧(ch=false→A=R0)∧(ch=true→A≠R0):=by
 have hU:=h.um rfl
 obtain⟨d,le,c0,c1,_,_,_⟩:=h
 rw[Ag] at d le c0 c1
 exact⟨⟨d,hU.closed,le⟩,c0,fun q e=>by have:=c1 q;rw[e] at this;exact(Cd _ this).elim⟩
end
noncomputable def zce:List Str:=["self","diffs"]
noncomputable def zbs:List Str:=["changes","equalities","lastEquality","pointer","pre_ins","pre_del","post_ins","post_del"]
noncomputable def zbk:List (Str×NameKind):=[("len",.globalImplicit)]
noncomputable def zbm:List Str:=[]
noncomputable def yY:List Sm:=[
  .expr (.me (.var 3) .append [.var 5]),
  .assign [.var 6] (.var 8),
  .assign [.var 7] (.var 9),
  .assign [.var 4] (.idx (.idx (.var 1) (.var 5)) (.lit (.int 1)))]
noncomputable def zaa:List Sm:=[
  .assign [.var 3] (.list []),
  .assign [.var 4] (.lit .none)]
noncomputable def zC:List Sm:=[
  .ife (.band [.cmp (.bi .len [.idx (.idx (.var 1) (.var 5)) (.lit (.int 1))]) [.Lt] [.attr (.var 0) "Diff_EditCost"],.bor [.var 8,.var 9]]) yY zaa,
  .assign [.var 8,.var 9] (.lit (.bool false))]
noncomputable def yW:List Sm:=[
  .assign [.var 8,.var 9] (.lit (.bool true)),
  .assign [.var 3] (.list [])]
noncomputable def zF:List Sm:=[
  .ife (.bi .len [.var 3]) [
   .expr (.me (.var 3) .pop [])] [],
  .ife (.bi .len [.var 3]) [
   .assign [.var 5] (.idx (.var 3) (.neg (.lit (.int 1))))] [
   .assign [.var 5] (.neg (.lit (.int 1)))],
  .assign [.var 8,.var 9] (.lit (.bool false))]
noncomputable def zo:List Sm:=[
  .expr (.me (.var 1) .insert [.idx (.var 3) (.neg (.lit (.int 1))),.tup [.attr (.var 0) "DIFF_DELETE",.var 4]]),
  .assign [.idx (.var 1) (.bin .Add (.idx (.var 3) (.neg (.lit (.int 1)))) (.lit (.int 1)))] (.tup [.attr (.var 0) "DIFF_INSERT",.idx (.idx (.var 1) (.bin .Add (.idx (.var 3) (.neg (.lit (.int 1)))) (.lit (.int 1)))) (.lit (.int 1))]),
  .expr (.me (.var 3) .pop []),
  .assign [.var 4] (.lit .none),
  .ife (.band [.var 6,.var 7]) yW zF,
  .assign [.var 2] (.lit (.bool true))]
noncomputable def zD:List Sm:=[
  .ife (.cmp (.idx (.idx (.var 1) (.var 5)) (.lit (.int 0))) [.Eq] [.attr (.var 0) "DIFF_DELETE"]) [
   .assign [.var 9] (.lit (.bool true))] [
   .assign [.var 8] (.lit (.bool true))],
  .ife (.band [.var 4,.bor [.band [.var 6,.var 7,.var 8,.var 9],.band [.cmp (.bi .len [.var 4]) [.Lt] [.bin .Div (.attr (.var 0) "Diff_EditCost") (.lit (.int 2))],.cmp (.bin .Add (.bin .Add (.bin .Add (.var 6) (.var 7)) (.var 8)) (.var 9)) [.Eq] [.lit (.int 3)]]]]) zo []]
noncomputable def zB:List Sm:=[
  .ife (.cmp (.idx (.idx (.var 1) (.var 5)) (.lit (.int 0))) [.Eq] [.attr (.var 0) "DIFF_EQUAL"]) zC zD,
  .aug 5 .Add (.lit (.int 1))]
noncomputable def zz:List Sm:=[
  .assign [.var 2] (.lit (.bool false)),
  .assign [.var 3] (.list []),
  .assign [.var 4] (.lit .none),
  .assign [.var 5] (.lit (.int 0)),
  .assign [.var 6] (.lit (.bool false)),
  .assign [.var 7] (.lit (.bool false)),
  .assign [.var 8] (.lit (.bool false)),
  .assign [.var 9] (.lit (.bool false)),
  .whl (.cmp (.var 5) [.Lt] [.bi .len [.var 1]]) zB,
  .ife (.var 2) [
   .expr (.imeth (.var 0) "diff_cleanupMerge" [.var 1])] []]
noncomputable def TC (P:PC) (c:Nat) (m:Mem) (t:Addr):Prop:= ∃dd fs,m t=some (.inst P.cls dd)∧m dd=some (.dict fs)∧(∀n,zfe n=true→yD n fs=none)∧yD "Diff_EditCost" fs=some (.int (c:Nat))
theorem TC.tool {P:PC}{c:Nat}{m:Mem}{t:Addr} (h:TC P c m t):zes P m t:=let ⟨dd,fs,a,b,c,_⟩:=h;⟨dd,fs,a,b,c⟩
theorem TC.ext {P:PC}{c:Nat}{m m':Mem}{t d:Addr} (h:TC P c m t) (hd: ∃l,m d=some (.list l)) (x:Ext d m m'):TC P c m' t:=by
 obtain⟨dd,fs,a,b,c,e⟩:=h
 obtain⟨l,hl⟩:=hd
 exact⟨dd,fs,x _ _ (fun q=>by rw[q,hl] at a;cases a) a,x _ _ (fun q=>by rw[q,hl] at b;cases b) b,c,e⟩
theorem zug {P:PC}{c:Nat}{m:Mem}{t:Addr}{K:V→Prop} (h:TC P c m t) (hf:P.fld "Diff_EditCost"=true) (q:K (.int (c:Nat))):zhv P m (.obj t) "Diff_EditCost" K:=by
 obtain⟨dd,fs,h1,h2,_,h4⟩:=h
 refine⟨dd,fs,h1,h2,?_⟩
 rw[h4]
 exact⟨hf,q⟩
theorem z2b {c n:Nat} (hc:c≤8) (hn:n<c):(Float64.cmpInt (Float64.ofFrac false c 2) (n:Int)==some .gt)=decide (2 * n<c):=by
 have key: ∀c:Nat,c<9→∀n:Nat,n<9→(Float64.cmpInt (Float64.ofFrac false c 2) (n:Int)==some .gt)=decide (2 * n<c):=by decide +kernel
 exact key c (Nat.lt_succ_of_le hc) n (Nat.lt_succ_of_le (ntr (Ax hn) hc))
theorem Dom.twice {R S:Row} (h:Dom R S):S.length≤2 * R.length:=by
 induction h with
 | nil=>exact Al _
 | cons p _ ih=>simp only[List.length_cons];exact ze 76241838917679727247912 rfl ih
 | split t _ ih=>simp only[List.length_cons];exact ze 78071643082086827066393128 rfl ih
theorem Dom.phi {R S:Row} (h:Dom R S):phi S≤2 * phi R:=by
 induction h with
 | nil=>exact Al _
 | cons p _ ih=>rw[zd,zd];exact zj 89761100199202801121622229544 rfl ih
 | split t _ ih=>
  rw[zd,zd,zd]
  show t.length+1+(t.length+1+_)≤2 * (t.length+1+_)
  exact zj 94121335402479276362412103533068840 rfl ih
theorem Dom.kinds {R S:Row} (h:Dom R S):zg R→zg S:=by
 induction h with
 | nil=>exact fun h=>h
 | cons p _ ih=>exact fun h=> .cons h.head (ih h.tail)
 | split t _ ih=>exact fun h=> .cons (.inl rfl) (.cons (.inr (.inr rfl)) (ih h.tail))
theorem Dom.ne {R S:Row} (h:Dom R S):NE R→NE S:=by
 induction h with
 | nil=>exact fun h=>h
 | cons p _ ih=>exact fun h=> .cons h.head (ih h.tail)
 | split t _ ih=>exact fun h=> .cons h.head (.cons h.head (ih h.tail))
noncomputable def zoh (N r a:Nat):Nat:=(N-r) * (N+2)+(r-a)
theorem zut {N r a:Nat} (h:a<r):zoh N r (a+1)<zoh N r a:=Nat.add_lt_add_left (by exact zT 123837001782182378531810448426 rfl (Ab (ze 5101777372906025 rfl h)) (Ab (ze 4952567644713 rfl h))) _
theorem zr1 {N r a a':Nat} (h:r+1≤N):zoh N (r+1) a'<zoh N r a:=by
 unfold zoh
 rw[show N-r=N-(r+1)+1 by exact Ai (zT 41565117680677662798916690121770 rfl (Ab (ze 5071429271819304 rfl h)) (Ab (ze 5224220029859402792 rfl h))) (zT 45960152986639485102464923468331 rfl (Ab (ze 5071429271819304 rfl h)) (Ab (ze 5224220029859402792 rfl h))),Nat.succ_mul,Nat.add_assoc]
 exact Nat.add_lt_add_left (by exact zT 127401758377136775919044258698280 rfl h (Nat.sub_le _ _)) _
theorem and4 {p q r s:Bool}{K:Bool→Prop} (h1:(p&&q&&r&&s)=true→K true) (h2:(p&&q&&r&&s)=false→K false):if p=true then if q=true then if r=true then if s=true then K true else K false else K false else K false else K false:=by
 cases p
 ·exact h2 rfl
 ·cases q
  ·exact h2 rfl
  ·cases r
   ·exact h2 rfl
   ·cases s
    ·exact h2 rfl
    ·exact h1 rfl
noncomputable def lsV:Option Tx→V
 | none=> .none
 | some t=> .str t
noncomputable def stV (st:List Nat):List V:=st.map fun n:Nat=>V.int n
noncomputable abbrev efS (t d:Addr) (ch:Bool) (l:Addr) (last:Option Tx) (p:Int) (pre post:KS) (m:Mem):St:=
 ⟨[some (.obj t),some (.obj d),some (.bool ch),some (.obj l),some (lsV last),some (.int p),some (.bool pre.2),some (.bool pre.1),some (.bool post.2),some (.bool post.1)],m⟩
structure Mm (d l:Addr) (m0 m:Mem) (st:List Nat) (R:Row):Prop where
 hd:m d=some (.list (rv R))
 hl:m l=some (.list (stV st))
 x:Ext d m0 m
 l0:m0 l=none
 ld:l≠d
theorem or2 {p q:Bool}{K:Bool→Prop} (h1:p=true∨q=true→K true) (h2:(q,p)=(false,false)→K false):if p=false then if q=false then K false else K true else K true:=by
 cases p
 ·cases q
  ·exact h2 rfl
  ·exact h1 (.inr rfl)
 ·exact h1 (.inl rfl)
theorem zbx {P:PC}{e:Ex}{es:List Ex}{Q:Bool→St→Prop}{σ:St} (h: ∀K:Bool→St→Prop,(∀σ',zia P true es Q σ'→K true σ')→(∀σ',Q false σ'→K false σ')→wpT P e (wpE P e) K σ):zia P true (e::es) Q σ:=h _ (fun _ q=>q) (fun _ q=>q)
theorem zrx {P:PC}{e:Ex}{es:List Ex}{Q:Bool→St→Prop}{σ:St} (h: ∀K:Bool→St→Prop,(∀σ',Q true σ'→K true σ')→(∀σ',zia P false es Q σ'→K false σ')→wpT P e (wpE P e) K σ):zia P false (e::es) Q σ:=h _ (fun _ q=>q) (fun _ q=>q)
theorem sum4 (p q:KS):(((if p.2=true then(1:Int) else 0)+(if p.1=true then 1 else 0))+(if q.2=true then 1 else 0))+(if q.1=true then 1 else 0)=((bn p+bn q:Nat):Int):=by
 obtain⟨a,b⟩:=p
 obtain⟨c,d⟩:=q
 cases a<;>cases b<;>cases c<;>cases d<;>rfl
theorem z9v (p q:KS):(p.2&&p.1&&q.2&&q.1)=decide (bn p+bn q=4):=by
 obtain⟨a,b⟩:=p
 obtain⟨c,d⟩:=q
 cases a<;>cases b<;>cases c<;>cases d<;>rfl
theorem zih {st1:List Nat}{q:Nat}:zK (stV (st1++[q])) (-1)=some (.int q):=by
 unfold stV
 rw[List.map_append,zbu _ (by rw[Aa];exact Br _),Aa,List.map_cons,List.map_nil,List.length_singleton,Nat.add_sub_cancel,Bf (Al _),Nat.sub_self];rfl
theorem zg2 (st:List Nat):(stV st).length=st.length:=Ar _
theorem zra {N:Nat}: ∀(st:List Nat) (lo:Nat),lo≤N→st.Pairwise (·<·)→(∀x∈st,lo≤x∧x<N)→st.length+lo≤N
 | [],lo,h,_,_=>by rw[List.length_nil,Nat.zero_add];exact h
 | q::st,lo,h,hp,hb=>by
  have hq:=hb q Aq
  have hp':=List.pairwise_cons.mp hp
  have:=zra st (q+1) hq.2 hp'.2 fun x hx=>⟨hp'.1 x hx,(hb x (Ao _ hx)).2⟩
  rw[List.length_cons]
  exact zT 126807191771803802055801769099816 rfl hq.1 this
theorem Stk.len {A:Row}{st:List Nat} (h:Stk A st):st.length≤A.length:=
 zra st 0 (Bq _) h.1 fun x hx=>⟨Bq _,let ⟨A1,s,A2,e,l⟩:=h.2 x hx;by rw[e,←l,Aa];exact Nat.lt_add_of_pos_right (Br _)⟩
theorem Mm.new {d l l':Addr}{m0 m:Mem}{st:List Nat}{R:Row} (M:Mm d l m0 m st R) (h:m l'=none):Mm d l' m0 (upd m l' (.list [])) [] R:=by
 have ld:l'≠d:=fun e=>by subst e;rw[M.hd] at h;cases h
 have l0:m0 l'=none:=by
  cases q:m0 l' with
  | none=>rfl
  | some o=>rw[M.x _ _ ld q] at h;cases h
 exact⟨(upn _ _ (Ne.symm ld)).trans M.hd,ups _ _ _,M.x.newIn l0 _,l0,ld⟩
theorem Mm.put {d l:Addr}{m0 m:Mem}{st:List Nat}{R:Row} (M:Mm d l m0 m st R) (st':List Nat):Mm d l m0 (upd m l (.list (stV st'))) st' R:=
 ⟨(upn _ _ (Ne.symm M.ld)).trans M.hd,ups _ _ _,M.x.newIn M.l0 _,M.l0,M.ld⟩
theorem Mm.row {d l:Addr}{m0 m:Mem}{st:List Nat}{R:Row} (M:Mm d l m0 m st R) (R':Row):Mm d l m0 (upd m d (.list (rv R'))) st R':=
 ⟨ups _ _ _,(upn _ _ M.ld).trans M.hl,M.x.trans (.upd _ _ _),M.l0,M.ld⟩
section
variable {P:PC}{t d l:Addr}{c:Nat}{R0 A B:Row}{ch:Bool}{st:List Nat}{last:Option Tx}{pre post:KS}{m0 m:Mem}{u:Tx}{k:Int}{Q:Fl→St→Prop}
inductive IE (c:Nat) (R0:Row) (t d:Addr) (m0:Mem) (n:Nat) (σ:St):Prop
 | mk (A B:Row) (ch:Bool) (st:List Nat) (last:Option Tx) (pre post:KS) (l:Addr) (m:Mem):σ=efS t d ch l last (A.length:Nat) pre post m→n=zoh (2 * R0.length) (A++B).length A.length→Eff c R0 A B ch st last pre post→Mm d l m0 m st (A++B)→IE c R0 t d m0 n σ
theorem z7m (hf:P.fld "Diff_EditCost"=true) (hT:TC P c m t) (hL:(A++(0,u)::B).length≤300) (hu:u≠[]) (hul:u.length≤1000) (M:Mm d l m0 m st (A++(0,u)::B)) (h:Eff c R0 A ((0,u)::B) ch st last pre post)
  (q: ∀st' last' pre' l' m',Eff c R0 (A++[(0,u)]) B ch st' last' pre' (false,false)→Mm d l' m0 m' st' (A++(0,u)::B)→Q .next (efS t d ch l' last' (A.length:Nat) pre' (false,false) m')):
  zk P zC Q (efS t d ch l last (A.length:Nat) pre post m):=by
 have hd:=M.hd
 have hl:=M.hl
 have la:A.length≤300:=by rw[Aa] at hL;exact ze 1434235601443998929960 rfl hL
 have tp:zr (A.length:Int):=zag (zm 74126376571176524710440 rfl la)
 have at0:zK (A++(0,u)::B) (A.length:Int)=some (0,u):=zM A _ B rfl
 have su:sma u.length:=by unfold sma;exact zm 1186022025138818233926184 rfl hul
 unfold zC
 refine za fun Q1 n1 _=>zf fun K kt kf=>?_
 walk_at "D"
 refine zh hd tp at0 (z0 ?_)
 walk_at "D"
 refine⟨su,zug hT hf ?_⟩
 walk_at "D"
 have low:(u.length<c→post=(false,false))→K false (efS t d ch l last (A.length:Nat) pre post m):=fun hb=>by
  refine kf _ ?_
  unfold zaa
  refine za fun Q2 n2 _=>?_
  walk_at "D"
  intro l' hl'
  refine n2 _ (ssn ?_)
  walk_at "D"
  refine n1 _ (ssn ?_)
  walk_at "D"
  exact q [] none pre l' _ (h.bar hb) (M.new hl')
 by_cases cs:u.length<c
 ·refine zax (Bj.mpr cs) (or2 (K:=fun b=>K b _) (fun _=>kt _ ?_) fun e=>low fun _=>e)
  unfold yY
  refine za fun Q2 n2 _=>?_
  walk_at "D"
  have M':=M.put (st++[A.length])
  refine⟨⟨_,hl⟩,_,hl,by rw[zg2];have:=h.sk.len;unfold sma;exact ze 621817115589765620438187115048 rfl la this,n2 _ ?_⟩
  rw[show stV st++[V.int (A.length:Int)]=stV (st++[A.length]) from by unfold stV;rw[List.map_append];rfl]
  generalize upd m l (.list (stV (st++[A.length])))=m' at *
  refine za fun Q3 n3 _=>?_
  walk_at "D"
  refine n3 _ (za fun Q4 n4 _=>?_)
  walk_at "D"
  refine n4 _ (ssn ?_)
  walk_at "D"
  refine zh M'.hd tp at0 (z0 ?_)
  walk_at "D"
  refine n1 _ (ssn ?_)
  walk_at "D"
  exact q _ (some u) post l m' (h.push hu cs) M'
 ·exact zcv (fun z=>cs (Bj.mp z)) (low fun z=>(cs z).elim)
theorem z8c (hf:P.fld "Diff_EditCost"=true) (cD:P.cc "DIFF_DELETE"=some (.int (-1))) (hT:TC P c m t) (hc8:c≤8) (hk:k=-1∨k=1) (hL:(A++(k,u)::B).length≤300) (M:Mm d l m0 m st (A++(k,u)::B)) (h:Eff c R0 A ((k,u)::B) ch st last pre post)
  (h1:(∀t,last=some t→¬mkd c (bn pre+bn (stp (k,u) post)) t)→Q .next (efS t d ch l last (A.length:Nat) pre (stp (k,u) post) m))
  (h2: ∀s,last=some s→mkd c (bn pre+bn (stp (k,u) post)) s→zk P zo Q (efS t d ch l (some s) (A.length:Nat) pre (stp (k,u) post) m)):
  zk P zD Q (efS t d ch l last (A.length:Nat) pre post m):=by
 have la:A.length≤300:=by rw[Aa] at hL;exact ze 1434235601443998929960 rfl hL
 have tp:zr (A.length:Int):=zag (zm 74126376571176524710440 rfl la)
 have at0:zK (A++(k,u)::B) (A.length:Int)=some (k,u):=zM A _ B rfl
 have hd:=M.hd
 unfold zD
 refine za fun Q1 n1 _=>zf fun K kt kf=>?_
 walk_at "D"
 refine zh hd tp at0 (yN (zd7 hT.tool rfl cD ?_))
 walk_at "D"
 have fin:Q1 .next (efS t d ch l last (A.length:Nat) pre (stp (k,u) post) m):=by
  refine n1 _ (ssn (zf fun K kt kf=>?_))
  rw[r_tband]
  refine zbx fun K1 k1t k1f=>?_
  walk_at "D"
  cases md:last with
  | none=>
   subst md
   exact k1f _ (kf _ (zc (h1 fun _ e=>nomatch e)))
  | some s=>
   subst md
   obtain⟨hs0,hsc⟩:s≠[]∧s.length<c:=by
    cases h.md with
    | some t A0 E st1 _ _ _ _ ht hc=>exact⟨ht,hc⟩
   have ss:sma s.length:=by unfold sma;exact ze 38863569724360351277492732456 rfl hc8 hsc
   have yes:mkd c (bn pre+bn (stp (k,u) post)) s→K true (efS t d ch l (some s) (A.length:Nat) pre (stp (k,u) post) m):=fun z=>kt _ (h2 s rfl z)
   have no: ¬mkd c (bn pre+bn (stp (k,u) post)) s→K false (efS t d ch l (some s) (A.length:Nat) pre (stp (k,u) post) m):=fun z=>kf _ (zc (h1 fun t e=>by cases e;exact z))
   generalize stp (k,u) post=post' at *
   refine(show sma s.length∧K1 (!s.isEmpty) _ from⟨ss,?_⟩)
   rw[show s.isEmpty=false by cases s with | nil=>exact absurd rfl hs0 | cons=>rfl]
   refine k1t _ (zbx fun K2 k2t k2f=>?_)
   rw[r_tbor]
   refine zrx fun K3 k3t k3f=>?_
   walk_at "D"
   refine and4 (K:=fun b=>K3 b _) (fun z=>k3t _ (k2t _ (yes ?_))) fun z=>k3f _ (zrx fun K4 k4t k4f=>?_)
   ·rw[z9v] at z
    exact .inl ⟨of_decide_eq_true z,hsc⟩
   rw[z9v] at z
   have z4:=of_decide_eq_false z
   have no2: ¬(bn pre+bn post'=3∧2 * s.length<c)→K4 false (efS t d ch l (some s) (A.length:Nat) pre post' m):=fun q=>k4f _ (k2f _ (no fun w=>w.elim (fun w=>z4 w.1) q))
   rw[r_tband]
   refine zbx fun K5 k5t k5f=>?_
   walk_at "D"
   refine(show sma s.length∧_ from⟨ss,zug hT hf ?_⟩)
   dsimp only[zwm]
   refine⟨by exact zm 983088 rfl,by exact zm 13511836129296936 rfl hc8,rfl,?_⟩
   dsimp only[z16]
   rw[Int.natAbs_natCast,z2b hc8 hsc]
   by_cases q2:2 * s.length<c
   ·rw[Af q2]
    refine k5t _ (zbx fun K6 k6t k6f=>?_)
    dsimp only[r_lit,r_var,r_bin,r_neg,r_not,r_list,r_tup,r_cmp,r_band,r_bor,r_idx,r_slc,r_attr,r_bi,r_call,r_me,r_imeth,r_comp,r_ch2,r_es0,r_es1,r_ch1,r_bo1,r_bo2,r_tnot,r_tband,r_tbor,r_tcmp,r_tvar,r_tcall,r_tme,r_tidx,r_tbi,r_ts0,r_ts1,r_tgs0,r_tgs1,r_sexpr,r_sassign,r_saug,r_sdel,r_sife,r_swhl,r_sfr,r_sret,r_ss0,r_ss1,tg_var,tg_tup,tg_idx,tg_slc,bin_add,bin_sub,bin_mul,bin_div,bin_mod,bin_cat,cmp_eqi,cmp_eqs,cmp_nei,cmp_nes,cmp_lt,cmp_le,cmp_gt,cmp_ge,tr_none,tr_bool,tr_int,tr_str,tr_tup,ix_str,ix_tup,sl_ii,sl_in,sl_ni,bi_lens,bi_lent,bi_min,bi_rng,bi_rng2,me_find,me_find2,ok_find,me_app,ok_app,me_ins,me_pop,me_join,me_ends,me_starts,ok_ins,ok_pop,ok_join,ok_ends,ok_starts,it_str,it_rng,neg_int,aug_addi,aug_adds,aug_subi,St.set,St.setAll,List.map_cons,List.map_nil,List.replicate,List.cons_append,List.nil_append,List.getElem?_cons_succ,List.getElem?_cons_zero,List.set_cons_succ,List.set_cons_zero,List.length_cons,List.length_nil,dreduceIte,retV,zy2,zuw]
    rw[sum4]
    by_cases q3:bn pre+bn post'=3
    ·rw[Af (show((bn pre+bn post':Nat):Int)=3 by exact Ad (ze 111005106659406648362 rfl q3) (ze 41554256777831919659 rfl q3))]
     exact k6t _ (k4t _ (k2t _ (yes (.inr ⟨q3,q2⟩))))
    ·rw[Ae (show ¬((bn pre+bn post':Nat):Int)=3 from fun e=>q3 (Int.ofNat.inj e))]
     exact k6f _ (no2 fun w=>q3 w.1)
   ·rw[Ae q2]
    exact k5f _ (no2 fun w=>q2 w.2)
 rcases hk with rfl | rfl
 ·refine kt _ (ssn ?_)
  walk_at "D"
  rw[show stp (-1,u) post=(true,post.2) from Prod.ext (Bool.or_true _) (Bool.or_false _)] at fin
  exact fin
 ·refine kf _ (ssn ?_)
  walk_at "D"
  rw[show stp (1,u) post=(post.1,true) from Prod.ext (Bool.or_false _) (Bool.or_true _)] at fin
  exact fin
end
section
variable {P:PC}{t d l:Addr}{c:Nat}{R0 A B:Row}{ch:Bool}{st:List Nat}{last:Option Tx}{pre post:KS}{m0 m:Mem}{u s:Tx}{k:Int}{Q:Fl→St→Prop}
theorem z6f (A0 X:Row) (p:z8):(rv (A0++X)).take A0.length++pv p::(rv (A0++X)).drop A0.length=rv (A0++p::X):=by
 rw[zN,List.take_left' (zl A0),List.drop_left' (zl A0),zN];rfl
theorem z46 {A0 X:Row}{st1:List Nat}{p:Int}{ss:List Sm} (cD:P.cc "DIFF_DELETE"=some (.int (-1))) (cI:P.cc "DIFF_INSERT"=some (.int 1)) (hT:TC P c m t) (ha:A0.length≤300) (hx:X.length≤300) (hs:st1.length≤300) (M:Mm d l m0 m (st1++[A0.length]) (A0++(0,s)::X))
  (q: ∀m3,Mm d l m0 m3 st1 (A0++(-1,s)::(1,s)::X)→zk P ss Q (efS t d ch l none p pre post m3)):
  zk P (.expr (.me (.var 1) .insert [.idx (.var 3) (.neg (.lit (.int 1))),.tup [.attr (.var 0) "DIFF_DELETE",.var 4]])::
   .assign [.idx (.var 1) (.bin .Add (.idx (.var 3) (.neg (.lit (.int 1)))) (.lit (.int 1)))] (.tup [.attr (.var 0) "DIFF_INSERT",.idx (.idx (.var 1) (.bin .Add (.idx (.var 3) (.neg (.lit (.int 1)))) (.lit (.int 1)))) (.lit (.int 1))])::
   .expr (.me (.var 3) .pop []):: .assign [.var 4] (.lit .none)::ss) Q (efS t d ch l (some s) p pre post m):=by
 have t1:zr (-1):=by (first|exact zag (by lia)|(unfold zr;lia)|(unfold zr;grind))
 have ta:zr (A0.length:Int):=zag (zm 74126376571176524710440 rfl ha)
 have ta1:zr ((A0.length:Int)+1):=zag (zm 75905409616653363508675112 rfl ha)
 have sR:sma (rv (A0++(0,s)::X)).length:=by rw[zl,Aa,List.length_cons];unfold sma;exact ze 166917760969375668227577149273422168616 rfl ha hx
 have e1: ∀p:z8,A0++(-1,s)::p::X=(A0++[(-1,s)])++p::X:=fun p=>By A0 (-1,s) (p::X)
 have el:((A0.length:Int)+1)=(((A0++[((-1:Int),s)]).length:Nat):Int):=by rw[Aa];rfl
 refine za fun Q1 n1 _=>?_
 dsimp only[r_lit,r_var,r_bin,r_neg,r_not,r_list,r_tup,r_cmp,r_band,r_bor,r_idx,r_slc,r_attr,r_bi,r_call,r_me,r_imeth,r_comp,r_ch2,r_es0,r_es1,r_ch1,r_bo1,r_bo2,r_tnot,r_tband,r_tbor,r_tcmp,r_tvar,r_tcall,r_tme,r_tidx,r_tbi,r_ts0,r_ts1,r_tgs0,r_tgs1,r_sexpr,r_sassign,r_saug,r_sdel,r_sife,r_swhl,r_sfr,r_sret,r_ss0,r_ss1,tg_var,tg_tup,tg_idx,tg_slc,bin_add,bin_sub,bin_mul,bin_div,bin_mod,bin_cat,cmp_eqi,cmp_eqs,cmp_nei,cmp_nes,cmp_lt,cmp_le,cmp_gt,cmp_ge,tr_none,tr_bool,tr_int,tr_str,tr_tup,ix_str,ix_tup,sl_ii,sl_in,sl_ni,bi_lens,bi_lent,bi_min,bi_rng,bi_rng2,me_find,me_find2,ok_find,me_app,ok_app,me_ins,me_pop,me_join,me_ends,me_starts,ok_ins,ok_pop,ok_join,ok_ends,ok_starts,it_str,it_rng,neg_int,aug_addi,aug_adds,aug_subi,St.set,St.setAll,List.map_cons,List.map_nil,List.replicate,List.cons_append,List.nil_append,List.getElem?_cons_succ,List.getElem?_cons_zero,List.set_cons_succ,List.set_cons_zero,List.length_cons,List.length_nil,dreduceIte,retV,zqs]
 refine⟨⟨_,M.hd⟩,t1,_,_,M.hl,zih,zd7 hT.tool rfl cD ?_⟩
 walk_at "D"
 refine⟨Int.natCast_nonneg _,ta,_,M.hd,sR,n1 _ ?_⟩
 rw[Int.toNat_natCast,show(rv (A0++(0,s)::X)).take A0.length++V.tup [.int (-1),lsV (some s)]::(rv (A0++(0,s)::X)).drop A0.length=rv (A0++(-1,s)::(0,s)::X) from z6f A0 _ (-1,s)]
 have hT1:=hT.ext ⟨_,M.hd⟩ (Ext.upd d m (.list (rv (A0++(-1,s)::(0,s)::X))))
 have M1:=M.row (A0++(-1,s)::(0,s)::X)
 clear sR M hT ta n1
 generalize upd m d (.list (rv (A0++(-1,s)::(0,s)::X)))=m1 at *
 refine za fun Q2 n2 _=>?_
 dsimp only[r_lit,r_var,r_bin,r_neg,r_not,r_list,r_tup,r_cmp,r_band,r_bor,r_idx,r_slc,r_attr,r_bi,r_call,r_me,r_imeth,r_comp,r_ch2,r_es0,r_es1,r_ch1,r_bo1,r_bo2,r_tnot,r_tband,r_tbor,r_tcmp,r_tvar,r_tcall,r_tme,r_tidx,r_tbi,r_ts0,r_ts1,r_tgs0,r_tgs1,r_sexpr,r_sassign,r_saug,r_sdel,r_sife,r_swhl,r_sfr,r_sret,r_ss0,r_ss1,tg_var,tg_tup,tg_idx,tg_slc,bin_add,bin_sub,bin_mul,bin_div,bin_mod,bin_cat,cmp_eqi,cmp_eqs,cmp_nei,cmp_nes,cmp_lt,cmp_le,cmp_gt,cmp_ge,tr_none,tr_bool,tr_int,tr_str,tr_tup,ix_str,ix_tup,sl_ii,sl_in,sl_ni,bi_lens,bi_lent,bi_min,bi_rng,bi_rng2,me_find,me_find2,ok_find,me_app,ok_app,me_ins,me_pop,me_join,me_ends,me_starts,ok_ins,ok_pop,ok_join,ok_ends,ok_starts,it_str,it_rng,neg_int,aug_addi,aug_adds,aug_subi,St.set,St.setAll,List.map_cons,List.map_nil,List.replicate,List.cons_append,List.nil_append,List.getElem?_cons_succ,List.getElem?_cons_zero,List.set_cons_succ,List.set_cons_zero,List.length_cons,List.length_nil,dreduceIte,retV,zqs,tg_idx]
 refine zd7 hT1.tool rfl cI ⟨t1,_,_,M1.hl,zih,?_⟩
 walk_at "D"
 refine zh M1.hd ta1 (q:=(0,s)) (by rw[e1];exact zM _ _ _ el) (z0 ⟨t1,_,_,M1.hl,zih,?_⟩)
 walk_at "D"
 refine⟨d,(A0.length:Int)+1,_,(A0++[((-1:Int),s)]).length,rfl,rfl,ta1,M1.hd,by rw[e1];exact zne _ _ _ el,n2 _ ?_⟩
 rw[show(rv (A0++(-1,s)::(0,s)::X)).set (A0++[((-1:Int),s)]).length (.tup [.int 1,.str s])=rv (A0++(-1,s)::(1,s)::X) by rw[e1,e1];exact zit _ _ _ (1,s)]
 have M2:=M1.row (A0++(-1,s)::(1,s)::X)
 clear M1 hT1 n2 e1 el ta1 t1
 generalize upd m1 d (.list (rv (A0++(-1,s)::(1,s)::X)))=m2 at *
 refine za fun Q3 n3 _=>?_
 walk_at "D"
 refine⟨⟨_,M2.hl⟩,rfl,stV st1,.int A0.length,by rw[M2.hl];unfold stV;rw[List.map_append];rfl,by rw[zg2];unfold sma;exact zm 74126376571176524710440 rfl hs,n3 _ ?_⟩
 refine za fun Q4 n4 _=>?_
 walk_at "D"
 exact n4 _ (q _ (M2.put st1))
theorem zqz {K:Bool→Prop}{st:List Nat}{w:Nat} (h:K true):K ((((stV (st++[w])).length:Nat):Int) !=0):=by
 rw[show((((stV (st++[w])).length:Nat):Int) !=0)=true by rw[zg2,Aa];exact bne_iff_ne.mpr fun e=>absurd (Int.ofNat.inj e) (Nat.succ_ne_zero _)];exact h
theorem z0t {A0 Y:Row}{st1:List Nat}{p:Int} (sk1:Stk A0 st1) (hs:st1.length≤300) (M:Mm d l m0 m st1 (A0++Y))
  (q: ∀{st' A' B' m'},Back A0 st1 st' A' B'→A'++B'=A0++Y→Mm d l m0 m' st' (A'++B')→Q .next (efS t d ch l none ((A'.length:Nat)-1) pre (false,false) m')):
  zk P zF Q (efS t d ch l none p pre post m):=by
 unfold zF
 refine za fun Q6 n6 _=>zf fun K kt kf=>?_
 dsimp only[r_lit,r_var,r_bin,r_neg,r_not,r_list,r_tup,r_cmp,r_band,r_bor,r_idx,r_slc,r_attr,r_bi,r_call,r_me,r_imeth,r_comp,r_ch2,r_es0,r_es1,r_ch1,r_bo1,r_bo2,r_tnot,r_tband,r_tbor,r_tcmp,r_tvar,r_tcall,r_tme,r_tidx,r_tbi,r_ts0,r_ts1,r_tgs0,r_tgs1,r_sexpr,r_sassign,r_saug,r_sdel,r_sife,r_swhl,r_sfr,r_sret,r_ss0,r_ss1,tg_var,tg_tup,tg_idx,tg_slc,bin_add,bin_sub,bin_mul,bin_div,bin_mod,bin_cat,cmp_eqi,cmp_eqs,cmp_nei,cmp_nes,cmp_lt,cmp_le,cmp_gt,cmp_ge,tr_none,tr_bool,tr_int,tr_str,tr_tup,ix_str,ix_tup,sl_ii,sl_in,sl_ni,bi_lens,bi_lent,bi_min,bi_rng,bi_rng2,me_find,me_find2,ok_find,me_app,ok_app,me_ins,me_pop,me_join,me_ends,me_starts,ok_ins,ok_pop,ok_join,ok_ends,ok_starts,it_str,it_rng,neg_int,aug_addi,aug_adds,aug_subi,St.set,St.setAll,List.map_cons,List.map_nil,List.replicate,List.cons_append,List.nil_append,List.getElem?_cons_succ,List.getElem?_cons_zero,List.set_cons_succ,List.set_cons_zero,List.length_cons,List.length_nil,dreduceIte,retV,zdg]
 have tail: ∀{st' m'},Mm d l m0 m' st' (A0++Y)→(st'=[]∨∃x,st1=st'++[x])→Q6 .next (efS t d ch l none p pre post m'):=fun {st' m'} Mt hs'=>by
  refine n6 _ (za fun Q7 n7 _=>zf fun K kt kf=>?_)
  dsimp only[r_lit,r_var,r_bin,r_neg,r_not,r_list,r_tup,r_cmp,r_band,r_bor,r_idx,r_slc,r_attr,r_bi,r_call,r_me,r_imeth,r_comp,r_ch2,r_es0,r_es1,r_ch1,r_bo1,r_bo2,r_tnot,r_tband,r_tbor,r_tcmp,r_tvar,r_tcall,r_tme,r_tidx,r_tbi,r_ts0,r_ts1,r_tgs0,r_tgs1,r_sexpr,r_sassign,r_saug,r_sdel,r_sife,r_swhl,r_sfr,r_sret,r_ss0,r_ss1,tg_var,tg_tup,tg_idx,tg_slc,bin_add,bin_sub,bin_mul,bin_div,bin_mod,bin_cat,cmp_eqi,cmp_eqs,cmp_nei,cmp_nes,cmp_lt,cmp_le,cmp_gt,cmp_ge,tr_none,tr_bool,tr_int,tr_str,tr_tup,ix_str,ix_tup,sl_ii,sl_in,sl_ni,bi_lens,bi_lent,bi_min,bi_rng,bi_rng2,me_find,me_find2,ok_find,me_app,ok_app,me_ins,me_pop,me_join,me_ends,me_starts,ok_ins,ok_pop,ok_join,ok_ends,ok_starts,it_str,it_rng,neg_int,aug_addi,aug_adds,aug_subi,St.set,St.setAll,List.map_cons,List.map_nil,List.replicate,List.cons_append,List.nil_append,List.getElem?_cons_succ,List.getElem?_cons_zero,List.set_cons_succ,List.set_cons_zero,List.length_cons,List.length_nil,dreduceIte,retV,zdg]
  have le':st'.length≤st1.length:=by
   rcases hs' with rfl | ⟨x,e⟩
   ·exact Bq _
   ·rw[e,Aa];exact Bc _ _
  refine⟨_,.inl Mt.hl,by rw[zg2];unfold sma;exact ze 621817115589765620438187115048 rfl hs le',?_⟩
  rcases List.eq_nil_or_concat st' with rfl | ⟨st3,w,rfl⟩
  ·refine kf _ (ssn ?_)
   walk_at "D"
   refine n7 _ (ssn ?_)
   walk_at "D"
   exact q (.top _) rfl Mt
  ·rw[List.concat_eq_append] at *
   rcases hs' with hs' | ⟨x,e4⟩
   ·exact absurd (congrArg List.length hs') (by rw[Aa];exact Nat.succ_ne_zero _)
   obtain⟨A1,s',A2,eA,rfl⟩:=sk1.2 w (by rw[e4];exact List.mem_append_left _ (List.mem_append_right _ Aq))
   refine(show K ((((stV (st3++[A1.length])).length:Nat):Int) !=0) _ from zqz (K:=fun b=>K b _) (kt _ (ssn ?_)))
   dsimp only[r_lit,r_var,r_bin,r_neg,r_not,r_list,r_tup,r_cmp,r_band,r_bor,r_idx,r_slc,r_attr,r_bi,r_call,r_me,r_imeth,r_comp,r_ch2,r_es0,r_es1,r_ch1,r_bo1,r_bo2,r_tnot,r_tband,r_tbor,r_tcmp,r_tvar,r_tcall,r_tme,r_tidx,r_tbi,r_ts0,r_ts1,r_tgs0,r_tgs1,r_sexpr,r_sassign,r_saug,r_sdel,r_sife,r_swhl,r_sfr,r_sret,r_ss0,r_ss1,tg_var,tg_tup,tg_idx,tg_slc,bin_add,bin_sub,bin_mul,bin_div,bin_mod,bin_cat,cmp_eqi,cmp_eqs,cmp_nei,cmp_nes,cmp_lt,cmp_le,cmp_gt,cmp_ge,tr_none,tr_bool,tr_int,tr_str,tr_tup,ix_str,ix_tup,sl_ii,sl_in,sl_ni,bi_lens,bi_lent,bi_min,bi_rng,bi_rng2,me_find,me_find2,ok_find,me_app,ok_app,me_ins,me_pop,me_join,me_ends,me_starts,ok_ins,ok_pop,ok_join,ok_ends,ok_starts,it_str,it_rng,neg_int,aug_addi,aug_adds,aug_subi,St.set,St.setAll,List.map_cons,List.map_nil,List.replicate,List.cons_append,List.nil_append,List.getElem?_cons_succ,List.getElem?_cons_zero,List.set_cons_succ,List.set_cons_zero,List.length_cons,List.length_nil,dreduceIte,retV,zqs]
   refine⟨by (first|exact zag (by lia)|(unfold zr;lia)|(unfold zr;grind)),_,_,Mt.hl,zih,?_⟩
   refine n7 _ (ssn ?_)
   walk_at "D"
   have eb:A0++Y=(A1++[(0,s')])++(A2++Y):=by rw[eA,Ah,Ah];rfl
   rw[eb] at Mt
   have g:=q (.back st3 x A1 A2 Y s' e4 eA) eb.symm Mt
   rw[show(((A1++[((0:Int),s')]).length:Nat):Int)-1=(A1.length:Nat) by rw[Aa];exact Int.add_sub_cancel (A1.length:Int) 1] at g
   exact g
 refine⟨_,.inl M.hl,by rw[zg2];unfold sma;exact zm 74126376571176524710440 rfl hs,?_⟩
 rcases List.eq_nil_or_concat st1 with rfl | ⟨st2,x,rfl⟩
 ·exact kf _ (zc (tail M (.inl rfl)))
 ·rw[List.concat_eq_append] at *
  refine(show K ((((stV (st2++[x])).length:Nat):Int) !=0) _ from zqz (K:=fun b=>K b _) (kt _ (ssn ?_)))
  walk_at "D"
  rw[Aa] at hs
  refine⟨⟨_,M.hl⟩,rfl,stV st2,.int x,by rw[M.hl];unfold stV;rw[List.map_append];rfl,by rw[zg2];unfold sma;exact ze 75905409608884761307649064 rfl hs,tail (M.put st2) (.inr ⟨x,rfl⟩)⟩
theorem z55 (cD:P.cc "DIFF_DELETE"=some (.int (-1))) (cI:P.cc "DIFF_INSERT"=some (.int 1)) (hT:TC P c m t) (hk:k=-1∨k=1) (hL:(A++(k,u)::B).length≤300) (M:Mm d l m0 m st (A++(k,u)::B)) (h:Eff c R0 A ((k,u)::B) ch st (some s) pre post)
  (hm:mkd c (bn pre+bn (stp (k,u) post)) s)
  (q: ∀A' B' st' l' p post' m',Eff c R0 A' B' true st' none pre post'→Mm d l' m0 m' st' (A'++B')→(A'++B').length=(A++(k,u)::B).length+1→p+1=((A'.length:Nat):Int)→Q .next (efS t d true l' none p pre post' m')):
  zk P zo Q (efS t d ch l (some s) (A.length:Nat) pre (stp (k,u) post) m):=by
 have sl:=h.sk.len
 obtain⟨A0,E,st1,rfl,rfl,hcut⟩:=h.cut (by rcases hk with rfl | rfl<;>decide) hm
 have eR:(A0++(0,s)::E)++(k,u)::B=A0++(0,s)::(E++(k,u)::B):=Ah _ _ _
 have lA: ∀Z:Row,((A0++(0,s)::E)++Z).length=A0.length+(E.length+1)+Z.length:=fun Z=>by rw[Aa,Aa,List.length_cons]
 rw[lA] at hL
 rw[Aa,Aa,List.length_singleton,List.length_cons] at sl
 rw[List.length_cons] at hL
 have hlen: ∀{A' B':Row},A'++B'=A0++(-1,s)::(1,s)::(E++(k,u)::B)→(A'++B').length=((A0++(0,s)::E)++(k,u)::B).length+1:=fun e=>by
  rw[e,eR,Aa,Aa,List.length_cons,List.length_cons,List.length_cons];rfl
 rw[eR] at M
 unfold zo
 refine z46 cD cI hT (by exact zj 1539998750740215952319809889320 rfl hL) (by rw[Aa,List.length_cons];exact zj 1614814635134452093725432543145141288 rfl hL) (by exact zT 13871336931709105345071956028462498037844976680 rfl hL sl) M fun m3 M3=>?_
 clear M hT hm h
 refine za fun Q5 n5 _=>zf fun K kt kf=>?_
 have fin: ∀{l' p post' m'},Q .next (efS t d true l' none p pre post' m')→Q5 .next (efS t d ch l' none p pre post' m'):=fun z=>by
  refine n5 _ (ssn ?_)
  walk_at "D"
  exact z
 by_cases hp:pre=(true,true)
 ·subst hp
  walk_at "D"
  refine kt _ ?_
  unfold yW
  refine za fun Q6 n6 _=>?_
  walk_at "D"
  refine n6 _ (ssn ?_)
  walk_at "D"
  intro l' hl'
  have e2:(A0++(-1,s)::(1,s)::E)++(k,u)::B=A0++(-1,s)::(1,s)::(E++(k,u)::B):=Ah A0 ((-1,s)::(1,s)::E) _
  rw[←e2] at M3
  refine fin (q _ _ [] l' _ (true,true) _ (hcut.full (pre':=(true,true))) (M3.new hl') (hlen e2) ?_)
  rw[Aa,Aa,List.length_cons,List.length_cons,List.length_cons]
  exact Ad (ze 38990597073078844433724464 rfl) (ze 38990588193669229127446064 rfl)
 ·have low: ∀{K:Bool→Prop},K false→if pre.2=true then(if pre.1=true then K true else K false) else K false:=fun z=>by
   obtain⟨a,b⟩:=pre
   cases a<;>cases b<;>first | exact z | exact absurd rfl hp
  walk_at "D"
  exact low (K:=fun b=>K b _) (kf _ (z0t hcut.sk (by exact zT 13871336931709105345071956028462498037844976680 rfl hL sl) M3 fun hb e Mb=>fin (q _ _ _ l _ _ _ (hcut.back hb e) Mb (hlen e) (by exact Ad (zm 8280965887024 rfl) (zm 35459766951472 rfl)))))
end
section
variable {P:PC}{t d l:Addr}{c:Nat}{R0 A B:Row}{m0 m:Mem}{Q:V→Mem→Prop}{Q1:Fl→St→Prop}
theorem z2a (hf:P.fld "Diff_EditCost"=true) (cD:P.cc "DIFF_DELETE"=some (.int (-1))) (cI:P.cc "DIFF_INSERT"=some (.int 1)) (cE:P.cc "DIFF_EQUAL"=some (.int 0)) (hT:TC P c m t) (hc8:c≤8) {p:z8}{ch:Bool}{st:List Nat}{last:Option Tx}{pre post:KS}
  (hk:p.1=-1∨p.1=0∨p.1=1) (hu:p.2≠[]) (hul:p.2.length≤1000) (hL:(A++p::B).length≤300) (hL2:(A++p::B).length≤2 * R0.length) (M:Mm d l m0 m st (A++p::B)) (h:Eff c R0 A (p::B) ch st last pre post)
  (q: ∀k σ',k<zoh (2 * R0.length) (A++p::B).length A.length→IE c R0 t d m0 k σ'→Q1 .next σ'):
  zk P zB Q1 (efS t d ch l last (A.length:Nat) pre post m):=by
 obtain⟨k,u⟩:=p
 have la:A.length≤300:=by rw[Aa] at hL;exact ze 1434235601443998929960 rfl hL
 have lt:A.length<(A++(k,u)::B).length:=by rw[Aa];exact Nat.lt_add_of_pos_right (Br _)
 have tp:zr (A.length:Int):=zag (zm 74126376571176524710440 rfl la)
 have at0:zK (A++(k,u)::B) (A.length:Int)=some (k,u):=zM A _ B rfl
 unfold zB
 refine za fun Q2 n2 _=>zf fun K kt kf=>?_
 walk_at "D"
 refine zh M.hd tp at0 (yN (zd7 hT.tool rfl cE ?_))
 walk_at "D"
 have on: ∀{ch' l' last' pre' post' st' m'},Eff c R0 (A++[(k,u)]) B ch' st' last' pre' post'→Mm d l' m0 m' st' (A++(k,u)::B)→Q2 .next (efS t d ch' l' last' (A.length:Nat) pre' post' m'):=fun {ch' l' last' pre' post' st' m'} e M'=>by
  refine n2 _ (ssn ?_)
  walk_at "D"
  refine q _ _ (zut lt) ⟨A++[(k,u)],B,ch',st',last',pre',post',l',m',?_,by rw[By A];congr 1;rw[Aa];rfl,e,by rw[←By];exact M'⟩
  rw[Aa];rfl
 by_cases k0:k=0
 ·subst k0
  exact kt _ (z7m hf hT hL hu hul M h fun st' last' pre' l' m' e M'=>on e M')
 ·refine(show K (decide (k=0)) _ from ?_)
  rw[Ae k0]
  have hk':k=-1∨k=1:=hk.elim .inl fun z=>z.elim (fun z=>(k0 z).elim) .inr
  refine kf _ (z8c hf cD hT hc8 hk' hL M h (fun no=>on (h.pass k0 no) M) fun s es hm=>?_)
  subst es
  refine z55 cD cI hT hk' hL M h hm fun A' B' st' l' p post' m' e M' hlen hp=>?_
  refine n2 _ (ssn ?_)
  walk_at "D"
  have tw:=e.d.twice
  rw[hlen] at tw
  refine q _ _ (zr1 (a':=A'.length) tw) ⟨A',B',true,st',none,pre,post',l',m',?_,by rw[hlen],e,M'⟩
  rw[hp]
theorem z8l (hf:P.fld "Diff_EditCost"=true) (cD:P.cc "DIFF_DELETE"=some (.int (-1))) (cI:P.cc "DIFF_INSERT"=some (.int 1)) (cE:P.cc "DIFF_EQUAL"=some (.int 0)) (hT:TC P c m t) (hc8:c≤8)
  (hC: ∀(L:Row) (m:Mem) (Q:V→Mem→Prop),zes P m t→m d=some (.list (rv L))→zg L→phi L<100→(∀m',m' d=some (.list (rv (zA 100 L)))→Ext d m m'→Q .none m')→P.meth "diff_cleanupMerge" [.obj t,.obj d] Q m)
  (hm:m d=some (.list (rv R0))) (hK:zg R0) (hN:NE R0) (hφ:phi R0<50)
  (h: ∀m' S C,Fin c R0 S→(S=R0∧C=R0∨S≠R0∧C=zA 100 S)→m' d=some (.list (rv C))→Ext d m m'→Q .none m'):
  zk P zz (fun fl σ'=>Q (retV fl) σ'.mem) ⟨[V.obj t,.obj d].map some++List.replicate 8 none,m⟩:=by
 have hl:=llp R0
 show zk P _ _ ⟨[some (.obj t),some (.obj d),none,none,none,none,none,none,none,none],m⟩
 unfold zz
 refine za fun Q1 n1 _=>?_
 walk_at "D"
 refine n1 _ (za fun Q2 n2 _=>?_)
 walk_at "D"
 intro l hl0
 have ld:l≠d:=fun e=>by subst e;rw[hm] at hl0;cases hl0
 have M0:Mm d l m (upd m l (.list [])) [] R0:=⟨(upn _ _ (Ne.symm ld)).trans hm,ups _ _ _,.new hl0 _,hl0,ld⟩
 refine n2 _ ?_
 generalize upd m l (.list [])=m1 at *
 refine za fun Q3 n3 _=>?_
 walk_at "D"
 refine n3 _ (za fun Q4 n4 _=>?_)
 walk_at "D"
 refine n4 _ (za fun Q5 n5 _=>?_)
 walk_at "D"
 refine n5 _ (za fun Q6 n6 _=>?_)
 walk_at "D"
 refine n6 _ (za fun Q7 n7 _=>?_)
 walk_at "D"
 refine n7 _ (za fun Q8 n8 _=>?_)
 walk_at "D"
 refine n8 _ (za fun Q9 n9 r9=>?_)
 refine zyr (IE c R0 t d m) ⟨_,[],R0,false,[],none,(false,false),(false,false),l,m1,rfl,rfl,.start,M0⟩ ?_
 rintro z _ ⟨A,B,ch,st,last,pre,post,l',m2,rfl,rfl,hE,M⟩ K Q1' kt k1 kf
 have tw:=hE.d.twice
 have tph:=hE.d.phi
 have hT2:=hT.ext ⟨_,hm⟩ M.x
 dsimp only[r_lit,r_var,r_bin,r_neg,r_not,r_list,r_tup,r_cmp,r_band,r_bor,r_idx,r_slc,r_attr,r_bi,r_call,r_me,r_imeth,r_comp,r_ch2,r_es0,r_es1,r_ch1,r_bo1,r_bo2,r_tnot,r_tband,r_tbor,r_tcmp,r_tvar,r_tcall,r_tme,r_tidx,r_tbi,r_ts0,r_ts1,r_tgs0,r_tgs1,r_sexpr,r_sassign,r_saug,r_sdel,r_sife,r_swhl,r_sfr,r_sret,r_ss0,r_ss1,tg_var,tg_tup,tg_idx,tg_slc,bin_add,bin_sub,bin_mul,bin_div,bin_mod,bin_cat,cmp_eqi,cmp_eqs,cmp_nei,cmp_nes,cmp_lt,cmp_le,cmp_gt,cmp_ge,tr_none,tr_bool,tr_int,tr_str,tr_tup,ix_str,ix_tup,sl_ii,sl_in,sl_ni,bi_lens,bi_lent,bi_min,bi_rng,bi_rng2,me_find,me_find2,ok_find,me_app,ok_app,me_ins,me_pop,me_join,me_ends,me_starts,ok_ins,ok_pop,ok_join,ok_ends,ok_starts,it_str,it_rng,neg_int,aug_addi,aug_adds,aug_subi,St.set,St.setAll,List.map_cons,List.map_nil,List.replicate,List.cons_append,List.nil_append,List.getElem?_cons_succ,List.getElem?_cons_zero,List.set_cons_succ,List.set_cons_zero,List.length_cons,List.length_nil,dreduceIte,retV,zdg]
 refine⟨_,.inl M.hd,by rw[zl];unfold sma;exact zj 41729440247937697344560407058211406409 rfl hφ hl tw,?_⟩
 rw[zl]
 cases B with
 | nil=>
  refine(show K (decide (((A.length:Nat):Int)<(((A++[]).length:Nat):Int))) _ from ?_)
  rw[Ag,Ae (Int.lt_irrefl _)]
  refine kf _ (n9 _ (ssn (zf fun K kt kf=>?_)))
  obtain⟨F,f0,f1⟩:=hE.fin
  have hd:=M.hd
  rw[Ag] at hd tph
  walk_at "D"
  cases ch with
  | false=>exact kf _ (zc (h m2 A A F (.inl ⟨f0 rfl,f0 rfl⟩) hd M.x))
  | true=>
   refine kt _ (ssn ?_)
   walk_at "D"
   exact⟨zln hT2.tool rfl,hC A m2 _ hT2.tool hd (F.d.kinds hK) (by exact ze 34757289612575408307307081 rfl hφ tph) fun m3 h3 x3=>h m3 A _ F (.inr ⟨f1 rfl,rfl⟩) h3 (M.x.trans x3)⟩
 | cons p B=>
  refine(show K (decide (((A.length:Nat):Int)<(((A++p::B).length:Nat):Int))) _ from ?_)
  rw[Af (Bj.mpr (by rw[Aa];exact Nat.lt_add_of_pos_right (Br _)))]
  have hp:p∈A++p::B:=List.mem_append_right _ Aq
  have hpl:=zbt hp
  exact kt _ (z2a hf cD cI cE hT2 hc8 (hE.d.kinds hK p hp) (hE.d.ne hN p hp) (by exact zj 5166954436806705749965955331523145 rfl hφ tph hpl) (by exact zj 788489263618626692978279917290057 rfl hφ hl tw) tw M hE k1)
end
noncomputable def zlk:List Str:=["parts","place","step"]
noncomputable def zj6:List Str:=["kinds"]
noncomputable def zh6:List (Str×NameKind):=[("len",.globalImplicit)]
noncomputable def zh2:List Str:=[]
noncomputable def zfz:List Sm:=[
  .ife (.cmp (.idx (.idx (.var 0) (.var 1)) (.lit (.int 0))) [.NotIn] [.var 3]) [
   .expr (.me (.var 3) .append [.idx (.idx (.var 0) (.var 1)) (.lit (.int 0))])] [],
  .assign [.var 1] (.bin .Add (.var 1) (.var 2))]
noncomputable def zbv:List Sm:=[
  .assign [.var 3] (.list []),
  .assign [.var 1] (.bin .Add (.var 1) (.var 2)),
  .whl (.band [.cmp (.lit (.int 0)) [.LtE] [.var 1],.cmp (.var 1) [.Lt] [.bi .len [.var 0]],.cmp (.idx (.idx (.var 0) (.var 1)) (.lit (.int 0))) [.NotEq] [.lit (.int 0)]]) zfz,
  .ret (.bi .len [.var 3])]
noncomputable def zke:List Str:=["parts","cost"]
noncomputable def zh3:List Str:=["new","place","kind","text","around"]
noncomputable def zhh:List (Str×NameKind):=[("range",.globalImplicit),("len",.globalImplicit),("_law_kinds",.globalImplicit)]
noncomputable def zgz:List Str:=[]
noncomputable def zY:List Sm:=[
  .assign [.tup [4,5]] (.idx (.var 0) (.var 3)),
  .assign [.var 6] (.lit (.int 0)),
  .ife (.cmp (.var 4) [.Eq] [.lit (.int 0)]) [
   .assign [.var 6] (.bin .Add (.call "_law_kinds" [.var 0,.var 3,.neg (.lit (.int 1))]) (.call "_law_kinds" [.var 0,.var 3,.lit (.int 1)]))] [],
  .ife (.bor [.band [.cmp (.var 6) [.Eq] [.lit (.int 4)],.cmp (.bi .len [.var 5]) [.Lt] [.var 1]],.band [.cmp (.var 6) [.Eq] [.lit (.int 3)],.cmp (.bin .Mult (.lit (.int 2)) (.bi .len [.var 5])) [.Lt] [.var 1]]]) [
   .assign [.var 2] (.bin .Add (.var 2) (.list [.tup [.neg (.lit (.int 1)),.var 5],.tup [.lit (.int 1),.var 5]]))] [
   .expr (.me (.var 2) .append [.tup [.var 4,.var 5]])]]
noncomputable def zab:List Sm:=[
  .assign [.var 2] (.list []),
  .fr (.var 3) (.bi .range [.bi .len [.var 0]]) zY,
  .ife (.cmp (.bi .len [.var 2]) [.Eq] [.bi .len [.var 0]]) [
   .ret (.var 2)] [],
  .assign [.var 0] (.var 2)]
noncomputable def zbj:List Sm:=[
  .whl (.lit (.bool true)) zab]
structure Way (R:Row) (a s:Int) (W:Row):Prop where
 on: ∀(i:Nat) (p:z8),W[i]? =some p→0≤a+s * i∧a+s * i<R.length∧zK R (a+s * i)=some p
 off: ¬(0≤a+s * W.length∧a+s * W.length<R.length)
theorem z6t (A B:Row) (p:z8):Way (A++p::B) ((A.length:Int)+1) 1 B:=by
 have e:A++p::B=(A++[p])++B:=By A p B
 have l:(A++[p]).length=A.length+1:=by rw[Aa];rfl
 have hlen:(A++p::B).length=A.length+1+B.length:=by rw[e,Aa,l]
 have c: ∀i:Nat,(A.length:Int)+1+1 * (i:Int)=((A.length+1+i:Nat):Int):=fun i=>by rw[Int.one_mul];rfl
 refine⟨fun i q hq=>?_,fun h=>?_⟩
 ·obtain⟨hi,rfl⟩:=Ce.mp hq
  rw[c,hlen]
  have lt:A.length+1+i<A.length+1+B.length:=Nat.add_lt_add_left hi _
  exact⟨Int.natCast_nonneg _,Bj.mpr lt,by rw[zba _ _ (by rw[hlen];exact lt),e,Bf (by rw[l];exact Bc _ _),l,Av,hq]⟩
 ·rw[c,hlen] at h
  exact Cd _ (Bj.mp h.2)
theorem z2n {n i:Nat} (h:i<n):(n:Int)+-1+-1 * (i:Int)=((n-1-i:Nat):Int):=by
 obtain⟨k,rfl⟩: ∃k,n=i+1+k:=⟨n-(i+1),(Nat.add_sub_cancel' h).symm⟩
 rw[show i+1+k-1-i=k by rw[Nat.add_right_comm,Nat.add_sub_cancel,Av],Int.natCast_add,Int.natCast_add,Int.neg_mul,Int.one_mul]
 show(i:Int)+1+k-1-i=k
 rw[Int.add_right_comm,Int.add_sub_cancel,Int.add_comm,Int.add_sub_cancel]
theorem zyw (A B:Row) (p:z8):Way (A++p::B) ((A.length:Int)+-1) (-1) A.reverse:=by
 refine⟨fun i q hq=>?_,fun h=>?_⟩
 ·obtain⟨hi,hq'⟩:=Ce.mp hq
  rw[Ak] at hi
  have lt:A.length-1-i<A.length:=Nat.lt_of_le_of_lt (Nat.sub_le _ _) (Nat.sub_lt (Nat.zero_lt_of_lt hi) Nat.one_pos)
  have lt2:A.length-1-i<(A++p::B).length:=by rw[Aa];exact Nat.lt_add_right _ lt
  rw[z2n hi]
  exact⟨Int.natCast_nonneg _,Bj.mpr lt2,by rw[zba _ _ lt2,Bg lt,←hq,List.getElem?_reverse hi]⟩
 ·rw[Ak] at h
  omega
structure KL (L:List Int) (s:KS):Prop where
 len:L.length=bn s
 mem: ∀k,k∈L↔(k=-1∧s.1=true)∨(k=1∧s.2=true)
theorem KL.nil:KL [] (false,false):=⟨rfl,fun k=>⟨fun h=>(nomatch h),fun h=>h.elim (fun h=>(nomatch h.2)) fun h=>(nomatch h.2)⟩⟩
theorem KL.in {L:List Int}{s:KS}{k:Int}{u:Tx} (h:KL L s) (hk:k=-1∨k=1) (hm:k∈L):stp (k,u) s=s:=by
 obtain⟨a,b⟩:=s
 rcases hk with rfl | rfl
 ·rcases (h.mem _).mp hm with ⟨_,e⟩ | ⟨e,_⟩
  ·replace e:a=true:=e;subst e;cases b<;>rfl
  ·cases e
 ·rcases (h.mem _).mp hm with ⟨e,_⟩ | ⟨_,e⟩
  ·cases e
  ·replace e:b=true:=e;subst e;cases a<;>rfl
theorem KL.out {L:List Int}{s:KS}{k:Int}{u:Tx} (h:KL L s) (hk:k=-1∨k=1) (hm: ¬k∈L):KL (L++[k]) (stp (k,u) s):=by
 obtain⟨a,b⟩:=s
 obtain⟨hl,hm'⟩:=h
 refine⟨?_,fun j=>?_⟩
 ·rw[Aa,hl]
  rcases hk with rfl | rfl
  ·cases a with
   | false=>cases b<;>rfl
   | true=>exact(hm ((hm' _).mpr (.inl ⟨rfl,rfl⟩))).elim
  ·cases b with
   | false=>cases a<;>rfl
   | true=>exact(hm ((hm' _).mpr (.inr ⟨rfl,rfl⟩))).elim
 ·rw[List.mem_append,hm',Bv]
  rcases hk with rfl | rfl
  ·show _↔(j=-1∧(a||true)=true)∨(j=1∧(b||false)=true)
   rw[Bool.or_true,Bool.or_false]
   exact⟨fun h=>h.elim (fun h=>h.elim (fun h=> .inl ⟨h.1,rfl⟩) .inr) fun h=> .inl ⟨h,rfl⟩,fun h=>h.elim (fun h=> .inr h.1) fun h=> .inl (.inr h)⟩
  ·show _↔(j=-1∧(a||false)=true)∨(j=1∧(b||true)=true)
   rw[Bool.or_true,Bool.or_false]
   exact⟨fun h=>h.elim (fun h=>h.elim .inl fun h=> .inr ⟨h.1,rfl⟩) fun h=> .inr ⟨h,rfl⟩,fun h=>h.elim (fun h=> .inl (.inl h)) fun h=> .inr h.1⟩
theorem z3e (L:List Int) (k:Int):((L.map PyData.int).any fun e=>PyData.eqv e (.int k))=decide (k∈L):=by
 induction L with
 | nil=>rfl
 | cons a L ih=>
  rw[List.map_cons,List.any_cons,ih]
  show(decide (a=k)||decide (k∈L))=decide (k∈a::L)
  by_cases q:a=k
  ·subst q;rw[Af rfl,Af Aq];rfl
  ·rw[Ae q,Bool.false_or]
   exact decide_eq_decide.mpr ⟨Ao _,fun h=>(List.mem_cons.mp h).elim (fun e=>(q e.symm).elim) id⟩
theorem z02 {m:Mem} (ns:List Int) (n:Nat):(ns.map V.int).mapM (rd (n+1) m)=some (ns.map PyData.int):=by
 induction ns with
 | nil=>rfl
 | cons y ys ih=>rw[List.map_cons,List.mapM_cons,ih];rfl
theorem zt4 {α:Type}{xs:List α}{i:Int}{x:α} (h:zK xs i=some x):x∈xs:=let ⟨_,_,e⟩:=zj0 h;Bp e
section
variable {P:PC}{d l:Addr}{R W:Row}{m:Mem}{Q:V→Mem→Prop}{a s:Int}
inductive KI (d:Addr) (R W:Row) (a s:Int) (m:Mem) (n:Nat) (σ:St):Prop
 | mk (W1 W2:Row) (L:List Int) (l:Addr) (m':Mem):W=W1++W2→n=W2.length→Eds W1→KL L (zcg W1)→σ=⟨[some (.obj d),some (.int (a+s * W1.length)),some (.int s),some (.obj l)],m'⟩→m l=none→m' l=some (.list (L.map V.int))→Gr m m'→KI d R W a s m n σ
theorem z2o {a0:Int} (hs:s=1∨s=-1) (ea:a0+s=a) (hm:m d=some (.list (rv R))) (hK:zg R) (hW:Way R a s W) (hl:R.length≤1000) (hw:W.length≤1000) (ha:-1000≤a∧a≤1000) (h: ∀m',Gr m m'→Q (.int (bn (zfp W):Nat)) m'):
  zk P zbv (fun fl σ'=>Q (retV fl) σ'.mem) ⟨[V.obj d,.int a0,.int s].map some++List.replicate 1 none,m⟩:=by
 show zk P _ _ ⟨[some (.obj d),some (.int a0),some (.int s),none],m⟩
 unfold zbv
 refine za fun Q1 n1 _=>?_
 walk_at "D"
 intro l hl0
 have gl:=Gr.new hl0 (.list [])
 have hl1:upd m l (.list []) l=some (.list []):=ups _ _ _
 refine n1 _ ?_
 generalize upd m l (.list [])=m1 at *
 refine za fun Q2 n2 _=>?_
 walk_at "D"
 refine n2 _ (za fun Q3 n3 _=>?_)
 refine zyr (KI d R W a s m) ⟨_,[],W,[],l,m1,rfl,rfl,(fun _ h=>nomatch h),.nil,?_,hl0,hl1,gl⟩ ?_
 ·rw[←ea,show a0+s+s * ((([]:Row).length:Nat):Int)=a0+s from(congrArg (a0+s+·) (Int.mul_zero s)).trans (Int.add_zero _)]
 rintro z _ ⟨W1,W2,L,l,m',rfl,rfl,hE,kl,rfl,l0,hl',g⟩ K Q1' kt k1 kf
 have hm':=g _ _ hm
 have done:(W2=[]∨∃x W3,W2=(0,x)::W3)→K false ⟨[some (.obj d),some (.int (a+s * W1.length)),some (.int s),some (.obj l)],m'⟩:=fun q=>by
  refine kf _ (n3 _ (ssn ?_))
  dsimp only[r_lit,r_var,r_bin,r_neg,r_not,r_list,r_tup,r_cmp,r_band,r_bor,r_idx,r_slc,r_attr,r_bi,r_call,r_me,r_imeth,r_comp,r_ch2,r_es0,r_es1,r_ch1,r_bo1,r_bo2,r_tnot,r_tband,r_tbor,r_tcmp,r_tvar,r_tcall,r_tme,r_tidx,r_tbi,r_ts0,r_ts1,r_tgs0,r_tgs1,r_sexpr,r_sassign,r_saug,r_sdel,r_sife,r_swhl,r_sfr,r_sret,r_ss0,r_ss1,tg_var,tg_tup,tg_idx,tg_slc,bin_add,bin_sub,bin_mul,bin_div,bin_mod,bin_cat,cmp_eqi,cmp_eqs,cmp_nei,cmp_nes,cmp_lt,cmp_le,cmp_gt,cmp_ge,tr_none,tr_bool,tr_int,tr_str,tr_tup,ix_str,ix_tup,sl_ii,sl_in,sl_ni,bi_lens,bi_lent,bi_min,bi_rng,bi_rng2,me_find,me_find2,ok_find,me_app,ok_app,me_ins,me_pop,me_join,me_ends,me_starts,ok_ins,ok_pop,ok_join,ok_ends,ok_starts,it_str,it_rng,neg_int,aug_addi,aug_adds,aug_subi,St.set,St.setAll,List.map_cons,List.map_nil,List.replicate,List.cons_append,List.nil_append,List.getElem?_cons_succ,List.getElem?_cons_zero,List.set_cons_succ,List.set_cons_zero,List.length_cons,List.length_nil,dreduceIte,retV,zdg]
  refine⟨_,.inl hl',by rw[Ar,kl.len];have:=zmb (zcg W1);unfold sma;exact zm 289556158481156801064 rfl this,?_⟩
  rw[Ar,kl.len]
  have e:zfp (W1++W2)=zcg W1:=by
   rw[zfp,zjx,show ldF W2 (false,false)=(false,false) by rcases q with rfl | ⟨x,W3,rfl⟩<;>rfl,zcg,(zei hE _).2,(zei hE _).1]
  have:=h m' g
  rw[e] at this
  exact this
 rw[r_tband]
 refine zbx fun K1 k1t k1f=>?_
 walk_at "D"
 cases W2 with
 | nil=>
  have off:=hW.off
  rw[Ag] at off
  by_cases q0:0≤a+s * W1.length
  ·rw[Af q0]
   refine k1t _ (zbx fun K2 k2t k2f=>?_)
   dsimp only[r_lit,r_var,r_bin,r_neg,r_not,r_list,r_tup,r_cmp,r_band,r_bor,r_idx,r_slc,r_attr,r_bi,r_call,r_me,r_imeth,r_comp,r_ch2,r_es0,r_es1,r_ch1,r_bo1,r_bo2,r_tnot,r_tband,r_tbor,r_tcmp,r_tvar,r_tcall,r_tme,r_tidx,r_tbi,r_ts0,r_ts1,r_tgs0,r_tgs1,r_sexpr,r_sassign,r_saug,r_sdel,r_sife,r_swhl,r_sfr,r_sret,r_ss0,r_ss1,tg_var,tg_tup,tg_idx,tg_slc,bin_add,bin_sub,bin_mul,bin_div,bin_mod,bin_cat,cmp_eqi,cmp_eqs,cmp_nei,cmp_nes,cmp_lt,cmp_le,cmp_gt,cmp_ge,tr_none,tr_bool,tr_int,tr_str,tr_tup,ix_str,ix_tup,sl_ii,sl_in,sl_ni,bi_lens,bi_lent,bi_min,bi_rng,bi_rng2,me_find,me_find2,ok_find,me_app,ok_app,me_ins,me_pop,me_join,me_ends,me_starts,ok_ins,ok_pop,ok_join,ok_ends,ok_starts,it_str,it_rng,neg_int,aug_addi,aug_adds,aug_subi,St.set,St.setAll,List.map_cons,List.map_nil,List.replicate,List.cons_append,List.nil_append,List.getElem?_cons_succ,List.getElem?_cons_zero,List.set_cons_succ,List.set_cons_zero,List.length_cons,List.length_nil,dreduceIte,retV,zdg]
   refine⟨_,.inl hm',by rw[zl];unfold sma;exact zm 1186022025138818233926184 rfl hl,?_⟩
   rw[zl]
   refine(show K2 (decide (a+s * W1.length<(R.length:Nat))) _ from ?_)
   rw[Ae fun z=>off ⟨q0,z⟩]
   exact k2f _ (done (.inl rfl))
  ·rw[Ae q0]
   exact k1f _ (done (.inl rfl))
 | cons p W3=>
  obtain⟨q0,q1,q2⟩:=hW.on W1.length p (by rw[Bf (Al _),Nat.sub_self];rfl)
  have ti:zr (a+s * W1.length):=⟨by exact z9l 2855458375368924118525149839392 rfl q0,by exact z71 674075180727875246922821279959591734477352 rfl hl q1⟩
  rw[Af q0]
  refine k1t _ (zbx fun K2 k2t k2f=>?_)
  dsimp only[r_lit,r_var,r_bin,r_neg,r_not,r_list,r_tup,r_cmp,r_band,r_bor,r_idx,r_slc,r_attr,r_bi,r_call,r_me,r_imeth,r_comp,r_ch2,r_es0,r_es1,r_ch1,r_bo1,r_bo2,r_tnot,r_tband,r_tbor,r_tcmp,r_tvar,r_tcall,r_tme,r_tidx,r_tbi,r_ts0,r_ts1,r_tgs0,r_tgs1,r_sexpr,r_sassign,r_saug,r_sdel,r_sife,r_swhl,r_sfr,r_sret,r_ss0,r_ss1,tg_var,tg_tup,tg_idx,tg_slc,bin_add,bin_sub,bin_mul,bin_div,bin_mod,bin_cat,cmp_eqi,cmp_eqs,cmp_nei,cmp_nes,cmp_lt,cmp_le,cmp_gt,cmp_ge,tr_none,tr_bool,tr_int,tr_str,tr_tup,ix_str,ix_tup,sl_ii,sl_in,sl_ni,bi_lens,bi_lent,bi_min,bi_rng,bi_rng2,me_find,me_find2,ok_find,me_app,ok_app,me_ins,me_pop,me_join,me_ends,me_starts,ok_ins,ok_pop,ok_join,ok_ends,ok_starts,it_str,it_rng,neg_int,aug_addi,aug_adds,aug_subi,St.set,St.setAll,List.map_cons,List.map_nil,List.replicate,List.cons_append,List.nil_append,List.getElem?_cons_succ,List.getElem?_cons_zero,List.set_cons_succ,List.set_cons_zero,List.length_cons,List.length_nil,dreduceIte,retV,zdg]
  refine⟨_,.inl hm',by rw[zl];unfold sma;exact zm 1186022025138818233926184 rfl hl,?_⟩
  rw[zl]
  refine(show K2 (decide (a+s * W1.length<(R.length:Nat))) _ from ?_)
  rw[Af q1]
  refine k2t _ (zbx fun K3 k3t k3f=>?_)
  walk_at "D"
  refine zh hm' ti q2 (yN ?_)
  walk_at "D"
  obtain⟨k,u⟩:=p
  refine(show K3 (!decide (k=0)) _ from ?_)
  by_cases k0:k=0
  ·subst k0
   exact k3f _ (done (.inr ⟨u,W3,rfl⟩))
  rw[Ae k0]
  refine k3t _ (kt _ ?_)
  have hk:k=-1∨k=1:=(hK _ (zt4 q2)).elim .inl fun z=>z.elim (fun z=>(k0 z).elim) .inr
  have hE':Eds (W1++[(k,u)]):=fun p hp=>by
   rcases List.mem_append.mp hp with hp | hp
   ·exact hE p hp
   ·rw[Bv.mp hp];exact k0
  have e:a+s * W1.length+s=a+s * ((W1++[(k,u)]).length:Nat):=by
   rw[Aa]
   show _=a+s * ((W1.length+1:Nat):Int)
   rcases hs with rfl | rfl<;>omega
  have bl:=zmb (zcg W1)
  unfold zfz
  refine za fun Q4 n4 _=>zf fun K5 k5t k5f=>?_
  walk_at "D"
  refine zh hm' ti q2 (yN ?_)
  refine(show zys m' (.int k) (.obj l) fun t=>K5 (!t) _ from⟨_,.int k,L.map PyData.int,hl',by rw[Ar,kl.len];unfold sma;exact zm 289556158481156801064 rfl bl,rfl,z02 L 6,?_⟩)
  rw[z3e]
  have go: ∀{L' m''},KL L' (zcg (W1++[(k,u)]))→m'' l=some (.list (L'.map V.int))→Gr m m''→Q4 .next ⟨[some (.obj d),some (.int (a+s * W1.length)),some (.int s),some (.obj l)],m''⟩:=fun {L' m''} kl' hl'' g'=>by
   refine n4 _ (ssn ?_)
   walk_at "D"
   refine k1 W3.length _ (Cb _) ⟨W1++[(k,u)],W3,L',l,m'',By _ _ _,rfl,hE',kl',?_,l0,hl'',g'⟩
   rw[e]
  by_cases hin:k∈L
  ·rw[Af hin]
   refine k5f _ (zc (go (L':=L) ?_ hl' g))
   rw[zcg,zl1,kl.in hk hin];exact kl
  ·rw[Ae hin]
   refine k5t _ (ssn ?_)
   walk_at "D"
   refine⟨⟨_,hl'⟩,zh hm' ti q2 (yN ?_)⟩
   walk_at "D"
   refine⟨_,hl',by rw[Ar,kl.len];unfold sma;exact zm 289556158481156801064 rfl bl,?_⟩
   refine go (L':=L++[k]) ?_ ?_ (g.set l0 _)
   ·rw[zcg,zl1];exact kl.out hk hin
   ·rw[ups,List.map_append];rfl
end
theorem z7x {P:PC}{c:Ex}{b:List Sm}{Q:Fl→St→Prop}{σ:St} (I:Nat→St→Prop) (i: ∃n,I n σ) (step: ∀n σ',I n σ'→∀(K:Bool→St→Prop) (Q1:Fl→St→Prop),(∀σ₂,zk P b Q1 σ₂→K true σ₂)→(∀k σ₂,k<n→I k σ₂→Q1 .next σ₂)→(∀v σ₂,Q (.ret v) σ₂→Q1 (.ret v) σ₂)→wpT P c (wpE P c) K σ'):wpS P (.whl c b) Q σ:=
 ⟨I,i,fun n σ' h=>step n σ' h _ _ (fun _ q=>q) (fun k _ hk hi=>⟨k,hk,hi⟩) fun _ _ q=>q⟩
noncomputable def zpi (P:PC):Prop:= ∀(d:Addr) (R W:Row) (a0 s:Int) (m:Mem) (Q:V→Mem→Prop),(s=1∨s=-1)→m d=some (.list (rv R))→zg R→Way R (a0+s) s W→R.length≤1000→W.length≤1000→-1000≤a0+s∧a0+s≤1000→(∀m',Gr m m'→Q (.int (bn (zfp W):Nat)) m')→P.call "_law_kinds" [.obj d,.int a0,.int s] Q m
section
variable {P:PC}{d e:Addr}{R A B N:Row}{m0 m:Mem}{Q:Fl→St→Prop}{c:Nat}{k:Int}{u:Tx}{x4 x5 x6:Option V}
noncomputable abbrev spS (d:Addr) (c:Nat) (e:Addr) (x3 x4 x5 x6:Option V) (m:Mem):St:=⟨[some (.obj d),some (.int (c:Nat)),some (.obj e),x3,x4,x5,x6],m⟩
theorem z14 {n:Nat} (he:m e=some (.list (rv N))) (g0:Gr m0 m) (e0:m0 e=none) (hN:N.length≤600) (su:sma u.length) (hc:c≤8) (hn:(k=0∧n=bn (zcg A)+bn (zfp B))∨k≠0∧n=0)
  (h: ∀e' N' m' x4 x5 x6,m' e'=some (.list (rv N'))→Gr m0 m'→m0 e'=none→N'++spr c (A++[(k,u)]) B=N++spr c A ((k,u)::B)→Q .next (spS d c e' (some (.int (A.length:Nat))) x4 x5 x6 m')):
  zk P (zY.drop 3) Q (spS d c e (some (.int (A.length:Nat))) (some (.int k)) (some (.str u)) (some (.int (n:Nat))) m):=by
 unfold zY
 show zk P (_::[]) _ _
 refine ssn (zf fun K kt kf=>?_)
 have yes:mkd c n u→k=0→K true (spS d c e (some (.int (A.length:Nat))) (some (.int k)) (some (.str u)) (some (.int (n:Nat))) m):=fun z k0=>by
  subst k0
  refine kt _ (ssn ?_)
  walk_at "D"
  intro a ha
  have ga:=Gr.new ha (.list [V.tup [.int (-1),.str u],.tup [.int 1,.str u]])
  refine⟨_,_,ga _ _ he,ups _ _ _,by rw[zl];unfold sma;exact zm 1186022025138817411842600 rfl hN,(by unfold sma;exact(by decide:2≤1000000)),fun e' he'=>?_⟩
  have g2:=g0.trans (ga.trans (Gr.new he' (.list (rv N++[V.tup [.int (-1),.str u],.tup [.int 1,.str u]]))))
  refine h e' (N++[(-1,u),(1,u)]) _ _ _ _ ((ups _ _ _).trans (congrArg (fun l=>some (O.list l)) (show rv N++[V.tup [.int (-1),.str u],.tup [.int 1,.str u]]=rv (N++[(-1,u),(1,u)]) by rw[zN];rfl))) g2 (g0.fresh (ga.fresh he')) ?_
  rw[show spr c A ((0,u)::B)=[(-1,u),(1,u)]++spr c (A++[(0,u)]) B from ?_,Ah]
  show(open Classical in if (0:Int)=0∧zb8 c A u B then[(-1,u),(1,u)] else[(0,u)])++_=_
  rcases hn with ⟨_,hn⟩ | ⟨hn,_⟩
  ·rw[if_pos ⟨rfl,show mkd c (bn (zcg A)+bn (zfp B)) u by rw[←hn];exact z⟩]
  ·exact(hn rfl).elim
 have no: ¬(mkd c n u∧k=0)→K false (spS d c e (some (.int (A.length:Nat))) (some (.int k)) (some (.str u)) (some (.int (n:Nat))) m):=fun z=>by
  refine kf _ (ssn ?_)
  walk_at "D"
  refine⟨⟨_,he⟩,_,he,by rw[zl];unfold sma;exact zm 1186022025138817411842600 rfl hN,?_⟩
  have g2:=g0.set e0 (.list (rv (N++[(k,u)])))
  rw[show rv N++[V.tup [.int k,.str u]]=rv (N++[(k,u)]) by rw[zN];rfl]
  refine h e (N++[(k,u)]) _ _ _ _ (ups _ _ _) g2 e0 ?_
  rw[show spr c A ((k,u)::B)=[(k,u)]++spr c (A++[(k,u)]) B from ?_,Ah]
  show(open Classical in if k=0∧zb8 c A u B then[(-1,u),(1,u)] else[(k,u)])++_=_
  rw[if_neg]
  rintro ⟨k0,mm⟩
  rcases hn with ⟨_,hn⟩ | ⟨hn,_⟩
  ·exact z ⟨by rw[hn];exact mm,k0⟩
  ·exact hn k0
 have k0:n≠0→k=0:=fun z=>hn.elim (fun q=>q.1) fun q=>(z q.2).elim
 rw[r_tbor]
 refine zrx fun K1 k1t k1f=>?_
 rw[r_tband]
 refine zbx fun K2 k2t k2f=>?_
 walk_at "D"
 have two:(¬(n=4∧u.length<c))→K1 false (spS d c e (some (.int (A.length:Nat))) (some (.int k)) (some (.str u)) (some (.int (n:Nat))) m):=fun z4=>by
  refine k1f _ (zrx fun K3 k3t k3f=>?_)
  rw[r_tband]
  refine zbx fun K4 k4t k4f=>?_
  walk_at "D"
  by_cases q3:n=3
  ·rw[Af (show(n:Int)=3 by exact Ad (zm 105617945002538 rfl q3) (zm 8349819154475 rfl q3))]
   refine k4t _ (zbx fun K5 k5t k5f=>?_)
   walk_at "D"
   refine⟨su,by (first|exact zag (by lia)|(unfold zr;lia)|(unfold zr;grind)),?_⟩
   by_cases q2:2 * u.length<c
   ·rw[Af (show(2:Int) * (u.length:Int)<(c:Nat) by exact ze 5693616507964172329 rfl q2)]
    exact k5t _ (k3t _ (yes (.inr ⟨q3,q2⟩) (k0 (by omega))))
   ·rw[Ae (show ¬(2:Int) * (u.length:Int)<(c:Nat) by exact Bk.mpr (ze 5703817226018357804 rfl q2))]
    exact k5f _ (k3f _ (no fun w=>w.1.elim z4 fun w=>q2 w.2))
  ·rw[Ae (show ¬(n:Int)=3 by omega)]
   exact k4f _ (k3f _ (no fun w=>w.1.elim z4 fun w=>q3 w.1))
 by_cases q4:n=4
 ·rw[Af (show(n:Int)=4 by exact Ad (zm 140802317615658 rfl q4) (zm 8384178896939 rfl q4))]
  refine k2t _ (zbx fun K5 k5t k5f=>?_)
  walk_at "D"
  refine⟨su,?_⟩
  by_cases q2:u.length<c
  ·rw[Af (show(u.length:Int)<(c:Nat) by exact ze 347510510518825 rfl q2)]
   exact k5t _ (k1t _ (yes (.inl ⟨q4,q2⟩) (k0 (by omega))))
  ·rw[Ae (show ¬(u.length:Int)<(c:Nat) by exact Bk.mpr (ze 347510502130220 rfl q2))]
   exact k5f _ (two fun w=>q2 w.2)
 ·rw[Ae (show ¬(n:Int)=4 by omega)]
  exact k2f _ (two fun w=>q4 w.1)
theorem z12 (hI:zpi P) (hm:m d=some (.list (rv (A++(k,u)::B)))) (he:m e=some (.list (rv N))) (g0:Gr m0 m) (e0:m0 e=none) (hd0:m0 d=some (.list (rv (A++(k,u)::B)))) (hK:zg (A++(k,u)::B)) (hL:(A++(k,u)::B).length≤300) (hN:N.length≤600) (hu:u.length≤1000) (hc:c≤8)
  (h: ∀e' N' m' x4 x5 x6,m' e'=some (.list (rv N'))→Gr m0 m'→m0 e'=none→N'++spr c (A++[(k,u)]) B=N++spr c A ((k,u)::B)→Q .next (spS d c e' (some (.int (A.length:Nat))) x4 x5 x6 m')):
  zk P zY Q (spS d c e (some (.int (A.length:Nat))) x4 x5 x6 m):=by
 have la:A.length≤300:=by rw[Aa] at hL;exact ze 1434235601443998929960 rfl hL
 have lb:B.length≤300:=by rw[Aa,List.length_cons] at hL;exact ze 1468666479250691255702568 rfl hL
 have tp:zr (A.length:Int):=zag (zm 74126376571176524710440 rfl la)
 have at0:zK (A++(k,u)::B) (A.length:Int)=some (k,u):=zM A _ B rfl
 have su:sma u.length:=by unfold sma;exact zm 1186022025138818233926184 rfl hu
 unfold zY
 show zk P (_::_::_::zY.drop 3) _ _
 refine za fun Q1 n1 _=>?_
 walk_at "D"
 refine zh hm tp at0 ?_
 refine⟨rfl,n1 _ (za fun Q2 n2 _=>?_)⟩
 walk_at "D"
 refine n2 _ (za fun Q3 n3 _=>zf fun K kt kf=>?_)
 walk_at "D"
 have pick: ∀(n:Nat) m1,Gr m m1→((k=0∧n=bn (zcg A)+bn (zfp B))∨k≠0∧n=0)→Q3 .next (spS d c e (some (.int (A.length:Nat))) (some (.int k)) (some (.str u)) (some (.int (n:Nat))) m1):=fun n m1 g1 hn=>n3 _ (z14 (g1 _ _ he) (g0.trans g1) e0 hN su hc hn h)
 by_cases k0:k=0
 ·rw[Af k0]
  refine kt _ (ssn ?_)
  walk_at "D"
  refine hI d _ A.reverse _ _ m _ (.inr rfl) hm hK (zyw A B (k,u)) (by exact zm 9178337261003997736 rfl hL) (by rw[Ak];exact zm 9178337261003997736 rfl la) (by exact⟨zm 1231715283242032 rfl,zm 601512061393713040982568 rfl la⟩) fun m1 g1=>?_
  refine hI d _ B _ _ m1 _ (.inl rfl) (g1 _ _ hm) hK (z6t A B (k,u)) (by exact zm 9178337261003997736 rfl hL) (by exact zm 9178337261003997736 rfl lb) (by exact⟨zm 140999748488240 rfl,zm 75189001036278320333352 rfl la⟩) fun m2 g2=>?_
  walk_at "D"
  exact pick _ m2 (g1.trans g2) (.inl ⟨k0,by rw[zfp,z0m]⟩)
 ·rw[Ae k0]
  exact kf _ (zc (pick 0 m (.refl _) (.inr ⟨k0,rfl⟩)))
end
section
variable {P:PC}{d0 d e:Addr}{R0 R A B N:Row}{m0 m:Mem}{c:Nat}{k:Int}{u:Tx}{x2 x3 x4 x5 x6:Option V}
inductive SpI (d:Addr) (R:Row) (c:Nat) (m:Mem) (rest:List Nat) (σ:St):Prop
 | mk (A B N:Row) (e:Addr) (x3 x4 x5 x6:Option V) (m':Mem):σ=spS d c e x3 x4 x5 x6 m'→R=A++B→rest=List.range' A.length B.length→m' e=some (.list (rv N))→Gr m m'→m e=none→N++spr c A B=spr c [] R→SpI d R c m rest σ
theorem z0j (hI:zpi P) (hm:m d=some (.list (rv R))) (hK:zg R) (hL:R.length≤300) (hu: ∀p∈R,p.2.length≤1000) (hc:c≤8) {Q:Fl→St→Prop} (h: ∀e x3 x4 x5 x6 m',m' e=some (.list (rv (spr c [] R)))→Gr m m'→m e=none→zk P (zab.drop 2) Q (spS d c e x3 x4 x5 x6 m')):
  zk P zab Q ⟨[some (.obj d),some (.int (c:Nat)),x2,x3,x4,x5,x6],m⟩:=by
 unfold zab at *
 refine za fun Q1 n1 _=>?_
 walk_at "D"
 intro e he
 have ge:=Gr.new he (.list [])
 have he1:upd m e (.list []) e=some (.list (rv [])):=ups _ _ _
 refine n1 _ ?_
 generalize upd m e (.list [])=m1 at *
 refine za fun Q2 n2 _=>?_
 simp only[r_sfr]
 dsimp only[r_lit,r_var,r_bin,r_neg,r_not,r_list,r_tup,r_cmp,r_band,r_bor,r_idx,r_slc,r_attr,r_bi,r_call,r_me,r_imeth,r_comp,r_ch2,r_es0,r_es1,r_ch1,r_bo1,r_bo2,r_tnot,r_tband,r_tbor,r_tcmp,r_tvar,r_tcall,r_tme,r_tidx,r_tbi,r_ts0,r_ts1,r_tgs0,r_tgs1,r_sexpr,r_sassign,r_saug,r_sdel,r_sife,r_swhl,r_sfr,r_sret,r_ss0,r_ss1,tg_var,tg_tup,tg_idx,tg_slc,bin_add,bin_sub,bin_mul,bin_div,bin_mod,bin_cat,cmp_eqi,cmp_eqs,cmp_nei,cmp_nes,cmp_lt,cmp_le,cmp_gt,cmp_ge,tr_none,tr_bool,tr_int,tr_str,tr_tup,ix_str,ix_tup,sl_ii,sl_in,sl_ni,bi_lens,bi_lent,bi_min,bi_rng,bi_rng2,me_find,me_find2,ok_find,me_app,ok_app,me_ins,me_pop,me_join,me_ends,me_starts,ok_ins,ok_pop,ok_join,ok_ends,ok_starts,it_str,it_rng,neg_int,aug_addi,aug_adds,aug_subi,St.set,St.setAll,List.map_cons,List.map_nil,List.replicate,List.cons_append,List.nil_append,List.getElem?_cons_succ,List.getElem?_cons_zero,List.set_cons_succ,List.set_cons_zero,List.length_cons,List.length_nil,dreduceIte,retV,zdg]
 refine⟨_,.inl (ge _ _ hm),by rw[zl];unfold sma;exact zm 74126376571176524710440 rfl hL,?_⟩
 rw[zl]
 refine⟨by exact zag (zm 74126376571176524710440 rfl hL),by (first|exact zag (by lia)|(unfold zr;lia)|(unfold zr;grind)),by (first|exact zag (by lia)|(unfold zr;lia)|(unfold zr;grind)),by (first|exact zag (by lia)|(unfold zr;lia)|(unfold zr;grind)),by decide,?_⟩
 rw[show zq6 0 (R.length:Int) 1=(List.range' 0 R.length).map fun j:Nat=>V.int j from zok 0 R.length]
 refine zeo (fun j:Nat=>V.int j) (SpI d R c m) (fun _ _ _=>trivial) (fun j l' σ i Q5 n5 _=>?_) (fun σ i=>?_) _ _ ⟨[],R,[],e,_,_,_,_,m1,rfl,rfl,rfl,he1,ge,he,rfl⟩
 ·obtain⟨A,B,N,e,x3,x4,x5,x6,m2,rfl,eR,er,he2,g2,e0,hN⟩:=i
  cases B with
  | nil=>cases er
  | cons p B=>
   obtain⟨k,u⟩:=p
   rw[List.length_cons,List.range'_succ] at er
   obtain⟨rfl,rfl⟩:=List.cons.inj er
   have lN:N.length≤600:=by
    have l1:=congrArg List.length hN
    have l2:=(zfm c R []).twice
    rw[Aa] at l1
    exact zT 68372257413403259725826182738935284296 rfl hL l1 l2
   subst eR
   walk_at "D"
   refine z12 hI (g2 _ _ hm) he2 g2 e0 hm hK hL lN (hu (k,u) (List.mem_append_right _ Aq)) hc fun e' N' m' x4 x5 x6 h1 g' h2 h3=>n5 _ ⟨A++[(k,u)],B,N',e',_,x4,x5,x6,m',rfl,By _ _ _,by rw[Aa];rfl,h1,g',h2,h3.trans hN⟩
 ·obtain⟨A,B,N,e,x3,x4,x5,x6,m2,rfl,eR,er,he2,g2,e0,hN⟩:=i
  cases B with
  | cons p B=>cases er
  | nil=>
   rw[show spr c A []=[] from rfl,Ag] at hN
   subst hN
   exact n2 _ (h e _ _ _ _ m2 he2 g2 e0)
inductive SpO (d0:Addr) (R0:Row) (c:Nat) (m:Mem) (n:Nat) (σ:St):Prop
 | mk (d:Addr) (R:Row) (x2 x3 x4 x5 x6:Option V) (m':Mem):σ=⟨[some (.obj d),some (.int (c:Nat)),x2,x3,x4,x5,x6],m'⟩→n=2 * R0.length-R.length→Dom R0 R→(∀X,ze5 c X→Dom R0 X→Dom R X)→m' d=some (.list (rv R))→Gr m m'→SpO d0 R0 c m n σ
theorem zw7 (hI:zpi P) (hm:m d0=some (.list (rv R0))) (hK:zg R0) (hφ:phi R0<50) (hc:c≤8) {Q:V→Mem→Prop} (h: ∀m' e S,Gr m m'→m e=none→m' e=some (.list (rv S))→Fin c R0 S→Q (.obj e) m'):
  zk P zbj (fun fl σ'=>Q (retV fl) σ'.mem) ⟨[V.obj d0,.int (c:Nat)].map some++List.replicate 5 none,m⟩:=by
 have hl:=llp R0
 show zk P _ _ ⟨[some (.obj d0),some (.int (c:Nat)),none,none,none,none,none],m⟩
 unfold zbj
 refine za fun Q1 n1 r1=>?_
 refine z7x (SpO d0 R0 c m) ⟨_,d0,R0,none,none,none,none,none,m,rfl,rfl,.refl _,fun _ _ h=>h,hm,.refl _⟩ ?_
 rintro z _ ⟨d,R,x2,x3,x4,x5,x6,m1,rfl,rfl,hD,hX,hd,g⟩ K Q2 kt k1 kr
 have tw:=hD.twice
 have tph:=hD.phi
 refine(show K true _ from kt _ ?_)
 refine z0j hI hd (hD.kinds hK) (by exact zj 788489263618626692978279917290057 rfl hφ hl tw) (fun p hp=>by have:=zbt hp;exact zj 5166954436806705749965955331523145 rfl hφ tph this) hc fun e x3 x4 x5 x6 m2 he g2 e0=>?_
 obtain⟨t1,t2,t3⟩:=zyb hD hX
 have l1:=(zfm c R []).len.1
 have l2:=t1.twice
 have hd2:=g2 _ _ hd
 unfold zab
 show zk P (_::_::[]) _ _
 refine za fun Q4 n4 r4=>zf fun K kt kf=>?_
 dsimp only[r_lit,r_var,r_bin,r_neg,r_not,r_list,r_tup,r_cmp,r_band,r_bor,r_idx,r_slc,r_attr,r_bi,r_call,r_me,r_imeth,r_comp,r_ch2,r_es0,r_es1,r_ch1,r_bo1,r_bo2,r_tnot,r_tband,r_tbor,r_tcmp,r_tvar,r_tcall,r_tme,r_tidx,r_tbi,r_ts0,r_ts1,r_tgs0,r_tgs1,r_sexpr,r_sassign,r_saug,r_sdel,r_sife,r_swhl,r_sfr,r_sret,r_ss0,r_ss1,tg_var,tg_tup,tg_idx,tg_slc,bin_add,bin_sub,bin_mul,bin_div,bin_mod,bin_cat,cmp_eqi,cmp_eqs,cmp_nei,cmp_nes,cmp_lt,cmp_le,cmp_gt,cmp_ge,tr_none,tr_bool,tr_int,tr_str,tr_tup,ix_str,ix_tup,sl_ii,sl_in,sl_ni,bi_lens,bi_lent,bi_min,bi_rng,bi_rng2,me_find,me_find2,ok_find,me_app,ok_app,me_ins,me_pop,me_join,me_ends,me_starts,ok_ins,ok_pop,ok_join,ok_ends,ok_starts,it_str,it_rng,neg_int,aug_addi,aug_adds,aug_subi,St.set,St.setAll,List.map_cons,List.map_nil,List.replicate,List.cons_append,List.nil_append,List.getElem?_cons_succ,List.getElem?_cons_zero,List.set_cons_succ,List.set_cons_zero,List.length_cons,List.length_nil,dreduceIte,retV,zdg]
 refine⟨_,.inl he,by rw[zl];unfold sma;exact zj 41729440247937697344560407058211406409 rfl hφ hl l2,_,.inl hd2,by rw[zl];unfold sma;exact zj 41729440247937697344560407058211406409 rfl hφ hl tw,?_⟩
 rw[zl,zl]
 refine(show K (decide (((spr c [] R).length:Int)=(R.length:Nat))) _ from ?_)
 by_cases q:(spr c [] R).length=R.length
 ·rw[Af (show((spr c [] R).length:Int)=(R.length:Nat) from congrArg Int.ofNat q)]
  refine kt _ (ssn ?_)
  walk_at "D"
  obtain⟨eq,F⟩:=t3 q
  rw[eq] at he
  have e00:m e=none:=by
   cases z:m e with
   | none=>rfl
   | some o=>rw[g _ _ z] at e0;cases e0
  exact r4 _ _ (kr _ _ (r1 _ _ (h m2 e R (g.trans g2) e00 he F)))
 ·rw[Ae (show ¬((spr c [] R).length:Int)=(R.length:Nat) from fun z=>q (Int.ofNat.inj z))]
  refine kf _ (zc (n4 _ (ssn ?_)))
  walk_at "D"
  exact k1 _ _ (have lt:=Nat.lt_of_le_of_ne l1 (Ne.symm q);Nat.sub_lt_sub_left (Ba lt l2) lt) ⟨e,spr c [] R,some (.obj e),x3,x4,x5,x6,m2,rfl,rfl,t1,t2,he,g.trans g2⟩
end
noncomputable def z25:List Str:=["script"]
noncomputable def zue:List Str:=["row","first","second","tool","early","late","main","parts","one","other","costs","cost","given","spread","plain","fell"]
noncomputable def zrq:List (Str×NameKind):=[("_law_side",.globalImplicit),("diff_match_patch",.globalImplicit),("sum",.globalImplicit),("list",.globalImplicit),("_law_spread",.globalImplicit),("_law_plain",.globalImplicit),("_law_slides",.globalImplicit)]
noncomputable def zr0:List Str:=[]
noncomputable def zox:List Sm:=[
  .assign [.tup [15,16]] (.call "_law_plain" [.var 14]),
  .ife (.band [.not (.var 16),.not (.call "_law_slides" [.var 15]),.cmp (.var 13) [.NotEq] [.var 15]]) [
   .ret (.lit (.bool false))] [],
  .expr (.imeth (.var 4) "diff_cleanupMerge" [.var 14])]
noncomputable def zpo:List Sm:=[
  .assign [.attr (.var 4) "Diff_EditCost"] (.var 12),
  .assign [.var 13] (.bi .list [.var 8]),
  .expr (.imeth (.var 4) "diff_cleanupEfficiency" [.var 13]),
  .ife (.bor [.cmp (.call "_law_side" [.var 13,.neg (.lit (.int 1))]) [.NotEq] [.var 9],.cmp (.call "_law_side" [.var 13,.lit (.int 1)]) [.NotEq] [.var 10]]) [
   .ret (.lit (.bool false))] [],
  .assign [.var 14] (.call "_law_spread" [.var 8,.var 12]),
  .ife (.cmp (.var 14) [.NotEq] [.var 8]) zox [],
  .ife (.cmp (.var 13) [.NotEq] [.var 14]) [
   .ret (.lit (.bool false))] []]
noncomputable def zoo:List Sm:=[
  .fr (.var 12) (.var 11) zpo]
noncomputable def zak:List Sm:=[
  .assign [.var 1] (.comp (.tup [.bin .Sub (.bin .Mod (.var 0) (.lit (.int 3))) (.lit (.int 1)),.idx (.call "_law_TEXTS" []) (.bin .Mod (.bin .FloorDiv (.var 0) (.lit (.int 3))) (.lit (.int 11)))]) true [0] (.slc (.var 0) (.lit .none) (.lit (.int 8)) (.lit .none)) [] 1 []),
  .assign [.tup [2,3]] (.tup [.call "_law_side" [.var 1,.neg (.lit (.int 1))],.call "_law_side" [.var 1,.lit (.int 1)]]),
  .assign [.var 4] (.call "diff_match_patch" []),
  .assign [.attr (.var 4) "Diff_Timeout"] (.lit (.int 1)),
  .assign [.tup [5,6]] (.tup [.slc (.var 2) (.lit .none) (.lit (.int 10)) (.lit .none),.slc (.var 3) (.lit .none) (.lit (.int 10)) (.lit .none)]),
  .assign [.var 7] (.imeth (.var 4) "diff_main" [.var 5,.var 6,.lit (.bool false)]),
  .fr (.tup [8,9,10,11]) (.list [.tup [.var 1,.var 2,.var 3,.list [.lit (.int 4),.bin .Mod (.bi .sum [.var 0]) (.lit (.int 9))]],.tup [.var 7,.var 5,.var 6,.list [.lit (.int 4)]]]) zoo,
  .ret (.lit (.bool true))]
inductive LawC4 (cls:Addr) (Q:V→Mem→Prop) (m:Mem):String→List V→Prop
 | texts:(∀m' a,Gr m m'→m' a=some (.list (texts.map V.str))→Q (.obj a) m')→LawC4 cls Q m "_law_TEXTS" []
 | side (d:Addr) (k:Int) (r:Row):m d=some (.list (rv r))→phi r≤800→(∀m',Gr m m'→Q (.str (side k r)) m')→LawC4 cls Q m "_law_side" [.obj d,.int k]
 | plain (d:Addr) (r:Row):m d=some (.list (rv r))→zg r→phi r≤800→(∀m' a,Gr m m'→m' a=some (.list (rv (zef r)))→Q (.tup [.obj a,.bool (fell r)]) m')→LawC4 cls Q m "_law_plain" [.obj d]
 | slides (d:Addr) (r:Row):m d=some (.list (rv r))→NE r→phi r≤800→(∀b,(b=true↔¬zkp r)→Q (.bool b) m)→LawC4 cls Q m "_law_slides" [.obj d]
 | spread (d:Addr) (r:Row) (c:Nat):m d=some (.list (rv r))→zg r→phi r<50→c≤8→(∀m' e S,Gr m m'→m e=none→m' e=some (.list (rv S))→Fin c r S→Q (.obj e) m')→LawC4 cls Q m "_law_spread" [.obj d,.int (c:Nat)]
 | tool:(∀t dd m',Gr m m'→m t=none→m dd=none→t≠dd→m' t=some (.inst cls dd)→m' dd=some (.dict zem)→Q (.obj t) m')→LawC4 cls Q m "diff_match_patch" []
inductive LawM4 (cls:Addr) (z:Tz) (Q:V→Mem→Prop) (m:Mem):String→List V→Prop
 | cm (t d:Addr) (r:Row):zes (za9 cls) m t→m d=some (.list (rv r))→zg r→phi r<100→(∀m',m' d=some (.list (rv (zA 100 r)))→Ext d m m'→Q .none m')→LawM4 cls z Q m "diff_cleanupMerge" [.obj t,.obj d]
 | main (t:Addr) (a b:Tx):TZ (za9 cls) z m t→a.length+b.length≤40→(∀m' r L,Gr m m'→m r=none→m' r=some (.list (rv L))→MainR (HT 1) a b L→Q (.obj r) m')→LawM4 cls z Q m "diff_main" [.obj t,.str a,.str b,.bool false]
 | eff (t d:Addr) (c:Nat) (r:Row):TC (za9 cls) c m t→c≤8→m d=some (.list (rv r))→zg r→NE r→phi r<50→(∀m' S C,Fin c r S→(S=r∧C=r∨S≠r∧C=zA 100 S)→m' d=some (.list (rv C))→Ext d m m'→Q .none m')→LawM4 cls z Q m "diff_cleanupEfficiency" [.obj t,.obj d]
noncomputable def zya (cls:Addr) (z:Tz):PC:={za9 cls with
 call:=fun f vs Q m=>LawC4 cls Q m f vs
 meth:=fun f vs Q m=>LawM4 cls z Q m f vs}
theorem zyc: ∀S R:Row,PyData.eqv (.list (S.map pd)) (.list (R.map pd))=decide (S=R):=by
 have key: ∀S R:Row,PyData.eqvAll (S.map pd) (R.map pd)=decide (S=R):=fun S=>by
  induction S with
  | nil=>intro R;cases R<;>rfl
  | cons p S ih=>
   intro R
   cases R with
   | nil=>rfl
   | cons q R=>
    show(PyData.eqv (pd p) (pd q)&&PyData.eqvAll (S.map pd) (R.map pd))=_
    rw[ih]
    show((decide (p.1=q.1)&&(mkS p.2==mkS q.2&&true))&&decide (S=R))=_
    rw[zoa,Bool.and_true,←Bool.decide_and,←Bool.decide_and]
    obtain⟨a,x⟩:=p
    obtain⟨b,y⟩:=q
    exact decide_eq_decide.mpr ⟨fun h=>by obtain⟨⟨h1,h2⟩,h3⟩:=h;replace h1:a=b:=h1;replace h2:x=y:=h2;rw[h1,h2,h3],fun h=>by cases h;exact⟨⟨rfl,rfl⟩,rfl⟩⟩
 exact fun S R=>key S R
theorem Dom.side {R S:Row} (h:Dom R S) {k:Int} (hk:k=-1∨k=1):side k S=side k R:=by
 induction h with
 | nil=>rfl
 | cons p _ ih=>rw[Mine.Internal.side,Mine.Internal.side,ih]
 | split t _ ih=>
  rw[Mine.Internal.side,Mine.Internal.side,Mine.Internal.side,ih]
  rcases hk with rfl | rfl
  ·rfl
  ·rfl
theorem zgs {n:String}{v:V}: ∀{fs:List (Str×V)},(fs.map (·.1)).contains (Str.ofString n)=true→(zn5 n v fs).map (·.1)=fs.map (·.1)
 | [],h=>nomatch h
 | (x,u)::r,h=>by
  unfold zn5
  by_cases q:x=Str.ofString n
  ·rw[if_pos q];rfl
  ·rw[if_neg q,List.map_cons,List.map_cons,zgs]
   rw[List.map_cons,List.contains_cons,Ca,Bh] at h
   exact h.elim (fun e=>(q e.symm).elim) id
noncomputable def TT (cls:Addr) (m:Mem) (t:Addr):Prop:= ∃dd fs,m t=some (.inst cls dd)∧m dd=some (.dict fs)∧fs.map (·.1)=zc3
theorem TT.no {fs:List (Str×V)} (h:fs.map (·.1)=zc3): ∀n,zfe n=true→yD n fs=none:=fun n hn=>zgr (by rw[h];exact zqr n (List.contains_iff_mem.mp hn))
theorem TT.ext {cls:Addr}{m m':Mem}{t d:Addr} (h:TT cls m t) (hd:m d=none∨∃l,m d=some (.list l)) (x:Ext d m m'):TT cls m' t:=by
 obtain⟨dd,fs,a,b,c⟩:=h
 refine⟨dd,fs,x _ _ (fun q=>?_) a,x _ _ (fun q=>?_) b,c⟩
 ·rcases hd with hd | ⟨l,hd⟩
  ·rw[q,hd] at a;cases a
  ·rw[q,hd] at a;cases a
 ·rcases hd with hd | ⟨l,hd⟩
  ·rw[q,hd] at b;cases b
  ·rw[q,hd] at b;cases b
theorem TT.gr {cls:Addr}{m m':Mem}{t:Addr} (h:TT cls m t) (g:Gr m m'):TT cls m' t:=let ⟨dd,fs,a,b,c⟩:=h;⟨dd,fs,g _ _ a,g _ _ b,c⟩
theorem z3l {m:Mem}{a:Addr}{Q:V→Mem→Prop}:zsj m .list [.obj a] Q=(∃vs,m a=some (.list vs)∧sma vs.length∧∀c,m c=none→Q (.obj c) (upd m c (.list vs))):=rfl
theorem z11: ∀n∈ztd,¬Str.ofString "Diff_Timeout"=Str.ofString n:=by decide +kernel
theorem z2f:zc3.contains (Str.ofString "Diff_EditCost")=true:=by decide +kernel
section
variable {cls:Addr}{z:Tz}{m:Mem}{Q:Fl→St→Prop}{p tl:Addr}{r:Row}{c:Nat}{x0 x1 x2 x3 x5 x6 x7 x11 x13 x14 x15 x16:Option V}
noncomputable abbrev l4S (x0 x1 x2 x3:Option V) (tl:Addr) (x5 x6 x7:Option V) (p:Addr) (r:Row) (x11:Option V) (c:Nat) (x13 x14 x15 x16:Option V) (m:Mem):St:=
 ⟨[x0,x1,x2,x3,some (.obj tl),x5,x6,x7,some (.obj p),some (.str (side (-1) r)),some (.str (side 1 r)),x11,some (.int (c:Nat)),x13,x14,x15,x16],m⟩
theorem z1p {i:Int}{K:St→Prop}{L:List (Option V)} (hT:TT cls m tl) (h4:L[4]? =some (some (.obj tl))) (h: ∀m',TT cls m' tl→(∀n:Nat,i=n→TC (za9 cls) n m' tl)→Kl m m'→K ⟨L,m'⟩):
  zi6 (zya cls z) (.attr (.var 4) "Diff_EditCost") (.int i) K ⟨L,m⟩:=by
 obtain⟨dd,fs,h1,h2,h3⟩:=hT
 have hne:tl≠dd:=fun q=>by rw[q,h2] at h1;cases h1
 rw[zol,r_var]
 show match L[4]? with | some (some v)=>_ | _=>False
 rw[h4]
 refine⟨tl,dd,fs,rfl,h1,h2,?_,rfl,?_⟩
 ·have:=congrArg List.length h3
  rw[Ar] at this
  rw[this]
  show 7≤100
  decide
 ·have hn:(zn5 "Diff_EditCost" (.int i) fs).map (·.1)=zc3:=by rw[zgs (by rw[h3];exact z2f),h3]
  refine h _ ⟨dd,_,(upn _ _ hne).trans h1,ups _ _ _,hn⟩ (fun n e=>⟨dd,_,(upn _ _ hne).trans h1,ups _ _ _,TT.no hn,?_⟩) fun y o vs e=>?_
  ·rw[zjf,if_pos rfl,e]
  ·refine(upn _ _ fun q=>?_).trans e
   rw[q,h2] at e;cases e;exact vs _ rfl
theorem z2r {K:Bool→Prop}{a b:Addr}{R S:Row} (ha:m a=some (.list (rv R))) (hb:m b=some (.list (rv S))) (h1:R=S→K false) (h2:R≠S→K true):zdw m .NotEq (.obj a) (.obj b) K:=by
 rw[z1m]
 refine⟨_,_,z0a ha,z0a hb,?_⟩
 rw[zyc]
 by_cases q:R=S
 ·rw[Af q];exact h1 q
 ·rw[Ae q];exact h2 q
theorem zx6 {g e:Addr}{S C:Row} (hT:TT cls m tl) (hg:m g=some (.list (rv C))) (he:m e=some (.list (rv S))) (hge:g≠e) (hK:zg S) (hN:NE S) (hφ:phi S<100) (hC:C=zA 100 S)
  (h: ∀m' x15 x16,Kl m m'∨(∃m1,Gr m m1∧Ext e m1 m')→TT cls m' tl→m' g=some (.list (rv C))→m' e=some (.list (rv C))→Q .next (l4S x0 x1 x2 x3 tl x5 x6 x7 p r x11 c (some (.obj g)) (some (.obj e)) x15 x16 m')):
  zk (zya cls z) zox Q (l4S x0 x1 x2 x3 tl x5 x6 x7 p r x11 c (some (.obj g)) (some (.obj e)) x15 x16 m):=by
 have hp:phi (zef S)≤phi S:=by rw[←ze8 hN hK];exact zel S
 unfold zox
 refine za fun Q1 n1 _=>?_
 walk_at "D"
 refine .plain e S he hK (by exact zm 8295631733628338729 rfl hφ) fun m1 a g1 ha=>⟨rfl,n1 _ (za fun Q2 n2 _=>zf fun K kt kf=>?_)⟩
 have hg1:=g1 _ _ hg
 have he1:=g1 _ _ he
 have out:K false (l4S x0 x1 x2 x3 tl x5 x6 x7 p r x11 c (some (.obj g)) (some (.obj e)) (some (.obj a)) (some (.bool (fell S))) m1):=by
  refine kf _ (zc (n2 _ (ssn ?_)))
  walk_at "D"
  refine⟨zln (let ⟨dd,fs,h1,h2,h3⟩:=hT.gr g1;⟨dd,fs,h1,h2,TT.no h3⟩:zes (za9 cls) m1 tl) rfl,.cm tl e S (let ⟨dd,fs,h1,h2,h3⟩:=hT.gr g1;⟨dd,fs,h1,h2,TT.no h3⟩) he1 hK hφ fun m2 h2 x2=>?_⟩
  exact h m2 _ _ (.inr ⟨m1,g1,x2⟩) ((hT.gr g1).ext (.inr ⟨_,he1⟩) x2) (x2 _ _ hge hg1) (by rw[hC];exact h2)
 rw[r_tband]
 refine zbx fun K1 k1t k1f=>?_
 walk_at "D"
 generalize fell S=ff at *
 cases ff with
 | true=>exact k1f _ out
 | false=>
  refine k1t _ (zbx fun K2 k2t k2f=>?_)
  walk_at "D"
  refine .slides a _ ha (z64 _) (by exact ze 69588876510872459326521897 rfl hφ hp) fun b hb=>?_
  walk_at "D"
  cases b with
  | true=>exact k2f _ out
  | false=>
   have ns:zkp (zef S):=Classical.byContradiction fun q=>by cases hb.mpr q
   refine k2t _ (zbx fun K3 k3t k3f=>?_)
   walk_at "D"
   exact z2r hg1 ha (fun _=>k3f _ out) fun q=>(q (hC.trans ((zl9 100 S hN hK hφ).2.2 ns))).elim
theorem TC.ext' {P:PC}{c:Nat}{m m':Mem}{t d:Addr} (h:TC P c m t) (hd:m d=none) (x:Gr m m'):TC P c m' t:=let ⟨dd,fs,a,b,c,e⟩:=h;⟨dd,fs,x _ _ a,x _ _ b,c,e⟩
theorem z88 (hT:TT cls m tl) (hp:m p=some (.list (rv r))) (hK:zg r) (hN:NE r) (hφ:phi r<50) (hc:c≤8)
  (h: ∀m' x13 x14 x15 x16,TT cls m' tl→Kl m m'→Q .next (l4S x0 x1 x2 x3 tl x5 x6 x7 p r x11 c x13 x14 x15 x16 m')):
  zk (zya cls z) zpo Q (l4S x0 x1 x2 x3 tl x5 x6 x7 p r x11 c x13 x14 x15 x16 m):=by
 have hl:=llp r
 unfold zpo
 refine za fun Q1 n1 _=>?_
 walk_at "D"
 refine z1p hT rfl fun m1 T1 C1 k1=>n1 _ (za fun Q2 n2 _=>?_)
 replace C1:=C1 c rfl
 have hp1:=k1.l hp
 dsimp only[r_lit,r_var,r_bin,r_neg,r_not,r_list,r_tup,r_cmp,r_band,r_bor,r_idx,r_slc,r_attr,r_bi,r_call,r_me,r_imeth,r_comp,r_ch2,r_es0,r_es1,r_ch1,r_bo1,r_bo2,r_tnot,r_tband,r_tbor,r_tcmp,r_tvar,r_tcall,r_tme,r_tidx,r_tbi,r_ts0,r_ts1,r_tgs0,r_tgs1,r_sexpr,r_sassign,r_saug,r_sdel,r_sife,r_swhl,r_sfr,r_sret,r_ss0,r_ss1,tg_var,tg_tup,tg_idx,tg_slc,bin_add,bin_sub,bin_mul,bin_div,bin_mod,bin_cat,cmp_eqi,cmp_eqs,cmp_nei,cmp_nes,cmp_lt,cmp_le,cmp_gt,cmp_ge,tr_none,tr_bool,tr_int,tr_str,tr_tup,ix_str,ix_tup,sl_ii,sl_in,sl_ni,bi_lens,bi_lent,bi_min,bi_rng,bi_rng2,me_find,me_find2,ok_find,me_app,ok_app,me_ins,me_pop,me_join,me_ends,me_starts,ok_ins,ok_pop,ok_join,ok_ends,ok_starts,it_str,it_rng,neg_int,aug_addi,aug_adds,aug_subi,St.set,St.setAll,List.map_cons,List.map_nil,List.replicate,List.cons_append,List.nil_append,List.getElem?_cons_succ,List.getElem?_cons_zero,List.set_cons_succ,List.set_cons_zero,List.length_cons,List.length_nil,dreduceIte,retV,z3l]
 refine⟨_,hp1,by rw[zl];unfold sma;exact ze 38863569724360351277401506345 rfl hφ hl,fun g hg=>n2 _ ?_⟩
 have gg:=Gr.new hg (.list (rv r))
 have hg2:upd m1 g (.list (rv r)) g=some (.list (rv r)):=ups _ _ _
 have C2:=C1.ext' hg gg
 generalize upd m1 g (.list (rv r))=m2 at *
 have nl: ∀{y o},(∀fs,o≠ .dict fs)→m y=some o→y≠g:=fun n e q=>by
  have:=k1 _ _ n e
  rw[q,hg] at this;cases this
 refine za fun Q3 n3 _=>?_
 walk_at "D"
 refine⟨zln C2.tool rfl,.eff tl g c r C2 hc hg2 hK hN hφ fun m3 S C F hSC hg3 xx3=>n3 _ ?_⟩
 have k3:Kl m m3:=fun y o n e=>xx3 _ _ (nl n e) (gg _ _ (k1 _ _ n e))
 have T3:=(T1.gr gg).ext (.inr ⟨_,hg2⟩) xx3
 have hKS:=F.d.kinds hK
 have hNS:=F.d.ne hN
 have hpS:=F.d.phi
 have hCs: ∀k:Int,k=-1∨k=1→side k C=side k r:=fun k hk=>by
  rcases hSC with ⟨_,rfl⟩ | ⟨_,rfl⟩
  ·rfl
  ·rw[(zg5 100 S hKS (by exact ze 34757289612575408307307081 rfl hφ hpS)).2 k hk,F.d.side hk]
 have hCp:phi C≤800:=by
  rcases hSC with ⟨_,rfl⟩ | ⟨_,rfl⟩
  ·exact zm 518476983392272937 rfl hφ
  ·have:=(zm7 100 S hKS (by exact ze 34757289612575408307307081 rfl hφ hpS)).2.2.2.1;exact zj 4670035401517239680464059599159881 rfl hφ hpS this
 refine za fun Q4 n4 _=>zf fun K kt kf=>?_
 rw[r_tbor]
 refine zrx fun K1 k1t k1f=>?_
 walk_at "D"
 refine .side g (-1) C hg3 hCp fun m4 g4=>?_
 walk_at "D"
 rw[hCs (-1) (.inl rfl),Af rfl]
 refine k1f _ (zrx fun K2 k2t k2f=>?_)
 walk_at "D"
 refine .side g 1 C (g4 _ _ hg3) hCp fun m5 g5=>?_
 walk_at "D"
 rw[hCs 1 (.inr rfl),Af rfl]
 refine k2f _ (kf _ (zc (n4 _ (za fun Q5 n5 _=>?_))))
 have g45:=g4.trans g5
 have k5:=k3.trans (Kl.gr g45)
 walk_at "D"
 refine .spread p r c (k5.l hp) hK hφ hc fun m6 e S' g6 e0 he F'=>n5 _ (za fun Q6 n6 _=>zf fun K kt kf=>?_)
 obtain rfl:=F.uniq F'
 have k6:=k5.trans (Kl.gr g6)
 have hg6:=g6 _ _ (g45 _ _ hg3)
 have T6:=(T3.gr g45).gr g6
 have hge:g≠e:=fun q=>by rw[←q,g45 _ _ hg3] at e0;cases e0
 have e00: ∀{y o},(∀fs,o≠ .dict fs)→m y=some o→y≠e:=fun n h q=>by rw[←q,k5 _ _ n h] at e0;cases e0
 have fin: ∀m' x15 x16,TT cls m' tl→Kl m m'→m' g=some (.list (rv C))→m' e=some (.list (rv C))→Q6 .next (l4S x0 x1 x2 x3 tl x5 x6 x7 p r x11 c (some (.obj g)) (some (.obj e)) x15 x16 m'):=fun m' x15 x16 T k h1 h2=>by
  refine n6 _ (ssn (zf fun K kt kf=>?_))
  walk_at "D"
  exact z2r h1 h2 (fun _=>kf _ (zc (h m' _ _ _ _ T k))) fun q=>(q rfl).elim
 have same:S=r→m6 e=some (.list (rv C)):=fun q=>by
  rcases hSC with ⟨_,e2⟩ | ⟨e1,_⟩
  ·rw[e2,←q];exact he
  ·exact(e1 q).elim
 have other:S≠r→C=zA 100 S:=fun q=>hSC.elim (fun h=>(q h.1).elim) fun h=>h.2
 walk_at "D"
 refine z2r he (k6.l hp) (fun q=>kf _ (zc (fin m6 _ _ T6 k6 hg6 (same q)))) fun q=>kt _ ?_
 refine zx6 T6 hg6 he hge hKS hNS (by exact ze 34757289612575408307307081 rfl hφ hpS) (other q) fun m7 x15 x16 k7 T7 h1 h2=>fin m7 _ _ T7 ?_ h1 h2
 rcases k7 with k7 | ⟨m8,g8,x8⟩
 ·exact k6.trans k7
 ·exact fun y o n h=>x8 _ _ (e00 n h) (g8 _ _ (k6 _ _ n h))
end
theorem z08 {m:Mem}{a:Addr}{Q:V→Mem→Prop}:zsj m .sum [.obj a] Q=(∃ns:List Int,(m a=some (.list (ns.map V.int))∨∃o,m a=some (.ro o (ns.map V.int)))∧Q (.int ns.sum) m):=rfl
theorem zhf {α:Type} (xs:List α) (n:Nat):zcd xs none (some (n:Int))=xs.take n:=by
 unfold zcd zfj zh5
 simp only[Option.elim,zfl]
 rw[List.drop_zero,Nat.sub_zero,←List.take_eq_take_min]
noncomputable def zz9 (i:Int):Tx:=(texts[(i/3%11).toNat]?).getD []
noncomputable def znc (ns:List Int):Row:=ns.map fun i=>(i%3-1,zz9 i)
theorem zls (a:Int) (b:Nat) (hb:0<b): ∃c:Nat,c<b∧a%(b:Int)=c:=by
 have h0:0≤a%(b:Int):=Int.emod_nonneg _ fun q=>absurd (Int.ofNat.inj q) (Nat.ne_of_gt hb)
 obtain⟨c,e⟩:=Int.eq_ofNat_of_zero_le h0
 have h1:=Int.emod_lt_of_pos a (Bj.mpr hb)
 rw[e] at h1
 exact⟨c,Bj.mp h1,e⟩
theorem zn9 (i:Int):zK (texts.map V.str) (i/3%11)=some (.str (zz9 i))∧(zz9 i).length≤4∧zz9 i≠[]∧zr (i/3%11):=by
 obtain⟨k,hk,e⟩:=zls (i/3) 11 (by decide)
 replace e:i/3%11=(k:Int):=e
 have hl:texts.length=11:=rfl
 have key: ∀t∈texts,t.length≤4∧t≠[]:=by decide
 obtain⟨x,hx⟩: ∃x,texts[k]? =some x:=⟨_,Ay (by rw[hl];exact hk)⟩
 unfold zz9
 rw[e,zba _ _ (by rw[Ar,hl];exact hk),Int.toNat_natCast,Bm,hx]
 exact⟨rfl,(key x (Bp hx)).1,(key x (Bp hx)).2,zag (ntr (Ax hk) (by decide))⟩
theorem z0r (i:Int):i%3-1=-1∨i%3-1=0∨i%3-1=1:=by
 obtain⟨k,hk,e⟩:=zls i 3 (by decide)
 replace e:i%3=(k:Int):=e
 rw[e]
 match k,hk with
 | 0,_=>exact .inl rfl
 | 1,_=>exact .inr (.inl rfl)
 | 2,_=>exact .inr (.inr rfl)
theorem z0i: ∀ns:List Int,phi (znc ns)≤5 * ns.length∧zg (znc ns)∧NE (znc ns)
 | []=>⟨Al _,.nil,.nil⟩
 | i::ns=>by
  obtain⟨h1,h2,h3⟩:=z0i ns
  obtain⟨_,t1,t2,_⟩:=zn9 i
  refine⟨?_,.cons (z0r i) h2,.cons t2 h3⟩
  show phi ((i%3-1,zz9 i)::znc ns)≤_
  rw[zd,List.length_cons,Nat.mul_succ,Nat.add_comm]
  exact Nat.add_le_add h1 (Be t1)
section
variable {cls:Addr}{z:Tz}{m:Mem}{QQ:Fl→St→Prop}{Q:V→Mem→Prop}{p tl ck sp P:Addr}{r:Row}{x0 x1 x2 x3 x5 x6 x7 x12 x13 x14 x15 x16:Option V}{oS:Obj}{ns:List Int}{pos:Pos}{q:Str}
noncomputable abbrev l4X (x0 x1 x2 x3:Option V) (tl:Addr) (x5 x6 x7:Option V) (p:Addr) (r:Row) (ck:Addr) (x12 x13 x14 x15 x16:Option V) (m:Mem):St:=
 ⟨[x0,x1,x2,x3,some (.obj tl),x5,x6,x7,some (.obj p),some (.str (side (-1) r)),some (.str (side 1 r)),some (.obj ck),x12,x13,x14,x15,x16],m⟩
inductive I4 (cls:Addr) (x0 x1 x2 x3:Option V) (tl:Addr) (x5 x6 x7:Option V) (p:Addr) (r:Row) (ck:Addr) (m:Mem) (rest:List Nat) (σ:St):Prop
 | mk (x12 x13 x14 x15 x16:Option V) (m':Mem):σ=l4X x0 x1 x2 x3 tl x5 x6 x7 p r ck x12 x13 x14 x15 x16 m'→TT cls m' tl→Kl m m'→(∀c∈rest,c≤8)→I4 cls x0 x1 x2 x3 tl x5 x6 x7 p r ck m rest σ
theorem z5d {cs:List Nat} (hT:TT cls m tl) (hp:m p=some (.list (rv r))) (hK:zg r) (hN:NE r) (hφ:phi r<50) (hck:m ck=some (.list (cs.map fun n:Nat=>V.int n))) (hcs: ∀c∈cs,c≤8) (hl:cs.length≤9)
  (h: ∀m' x12 x13 x14 x15 x16,TT cls m' tl→Kl m m'→QQ .next (l4X x0 x1 x2 x3 tl x5 x6 x7 p r ck x12 x13 x14 x15 x16 m')):
  zk (zya cls z) zoo QQ (l4X x0 x1 x2 x3 tl x5 x6 x7 p r ck x12 x13 x14 x15 x16 m):=by
 unfold zoo
 refine ssn ?_
 simp only[r_sfr]
 dsimp only[r_lit,r_var,r_bin,r_neg,r_not,r_list,r_tup,r_cmp,r_band,r_bor,r_idx,r_slc,r_attr,r_bi,r_call,r_me,r_imeth,r_comp,r_ch2,r_es0,r_es1,r_ch1,r_bo1,r_bo2,r_tnot,r_tband,r_tbor,r_tcmp,r_tvar,r_tcall,r_tme,r_tidx,r_tbi,r_ts0,r_ts1,r_tgs0,r_tgs1,r_sexpr,r_sassign,r_saug,r_sdel,r_sife,r_swhl,r_sfr,r_sret,r_ss0,r_ss1,tg_var,tg_tup,tg_idx,tg_slc,bin_add,bin_sub,bin_mul,bin_div,bin_mod,bin_cat,cmp_eqi,cmp_eqs,cmp_nei,cmp_nes,cmp_lt,cmp_le,cmp_gt,cmp_ge,tr_none,tr_bool,tr_int,tr_str,tr_tup,ix_str,ix_tup,sl_ii,sl_in,sl_ni,bi_lens,bi_lent,bi_min,bi_rng,bi_rng2,me_find,me_find2,ok_find,me_app,ok_app,me_ins,me_pop,me_join,me_ends,me_starts,ok_ins,ok_pop,ok_join,ok_ends,ok_starts,it_str,it_rng,neg_int,aug_addi,aug_adds,aug_subi,St.set,St.setAll,List.map_cons,List.map_nil,List.replicate,List.cons_append,List.nil_append,List.getElem?_cons_succ,List.getElem?_cons_zero,List.set_cons_succ,List.set_cons_zero,List.length_cons,List.length_nil,dreduceIte,retV,zzc]
 refine⟨_,hck,by rw[Ar];unfold sma;exact zm 4632898535698505138728 rfl hl,?_⟩
 refine zeo (fun n:Nat=>V.int n) (I4 cls x0 x1 x2 x3 tl x5 x6 x7 p r ck m) (fun l σ i=>?_) (fun c l σ i Q5 n5 _=>?_) (fun σ i=>?_) cs _ ⟨_,_,_,_,_,_,rfl,hT,.refl _,hcs⟩
 ·obtain⟨x12,x13,x14,x15,x16,m',rfl,_,k,_⟩:=i
  exact k.l hck
 ·obtain⟨x12,x13,x14,x15,x16,m',rfl,T,k,hc⟩:=i
  walk_at "D"
  exact z88 T (k.l hp) hK hN hφ (hc c Aq) fun m2 x13 x14 x15 x16 T2 k2=>n5 _ ⟨_,_,_,_,_,_,rfl,T2,k.trans k2,fun c hc'=>hc c (Ao _ hc')⟩
 ·obtain⟨x12,x13,x14,x15,x16,m',rfl,T,k,_⟩:=i
  exact h _ _ _ _ _ _ T k
theorem zww (hS:m sp=some (.ro oS (ns.map V.int))) (hn:ns.length≤63) {K:V→St→Prop}{L:List (Option V)} (h0:L[0]? =some (some (.obj sp))) (h: ∀a1 m',Gr m m'→m' a1=some (.list (rv (znc (ns.take 8))))→K (.obj a1) ⟨L,m'⟩):
  wpE (zya cls z) (.comp (.tup [.bin .Sub (.bin .Mod (.var 0) (.lit (.int 3))) (.lit (.int 1)),.idx (.call "_law_TEXTS" []) (.bin .Mod (.bin .FloorDiv (.var 0) (.lit (.int 3))) (.lit (.int 11)))]) true [0] (.slc (.var 0) (.lit .none) (.lit (.int 8)) (.lit .none)) [] 1 []) K ⟨L,m⟩:=by
 simp only[r_comp,r_slc,r_lit]
 rw[r_var]
 show match L[0]? with | some (some v)=>_ | _=>False
 rw[h0]
 refine(show zmh m (.obj sp) .none (.int 8) .none _ from ?_)
 rw[z6p]
 refine⟨_,.inr ⟨oS,hS⟩,by rw[Ar];unfold sma;exact zm 4632898535698558616104 rfl hn,fun b hb=>?_⟩
 rw[show zcd (ns.map V.int) none (some 8)=(ns.take 8).map V.int by rw[List.map_take];exact zhf _ 8]
 have l8:(ns.take 8).length≤8:=by rw[An];exact Nat.min_le_left _ _
 have g1:=Gr.new hb (.list ((ns.take 8).map V.int))
 have hB:upd m b (.list ((ns.take 8).map V.int)) b=some (.list ((ns.take 8).map V.int)):=ups _ _ _
 generalize upd m b (.list ((ns.take 8).map V.int))=m1 at *
 generalize ns.take 8=ks at *
 have sl:sma (ks.map V.int).length:=by rw[Ar];unfold sma;exact zm 4632898535698504614440 rfl l8
 dsimp only[zzc]
 refine⟨_,hB,sl,sl,?_⟩
 refine zc7 (fun σ=> ∃x m',σ=⟨[x],m'⟩∧Gr m1 m') V.int (fun i=>some (pv (i%3-1,zz9 i))) ks [] _ ⟨none,m1,rfl,.refl _⟩ (by rintro _ ⟨x,m',rfl,g⟩;exact g _ _ hB) ?_ ?_
 ·rintro i _ _ ⟨x,m',rfl,g⟩ K K' _ h2
  have h2:=h2 _ rfl
  rw[zk1]
  walk_at "D"
  refine⟨by decide,.texts fun m2 a g2 ha=>?_⟩
  refine⟨by decide,by unfold zr;exact⟨zqp 882115563483302961 rfl,zqp 278790960450646065 rfl⟩,by decide,?_⟩
  rw[zqs]
  refine⟨(zn9 i).2.2.2,_,_,ha,(zn9 i).1,?_⟩
  exact h2 _ ⟨_,m2,rfl,g.trans g2⟩
 ·rintro _ ⟨x,m',rfl,g⟩ a ha
  walk_at "D"
  refine h a _ (g1.trans (g.trans (.new ha _))) ?_
  rw[ups]
  unfold znc rv
  rw[List.map_map]
  exact congrArg (fun l=>some (O.list l)) (congrFun (List.filterMap_eq_map' (f:=fun i:Int=>pv (i%3-1,zz9 i))) ks)
end
section
variable {cls sp P:Addr}{m:Mem}{Q:V→Mem→Prop}{oS:Obj}{ns:List Int}{pos:Pos}{q:Str}
noncomputable abbrev tz4 (P:Addr) (pos:Pos) (q:Str):Tz:=⟨1,some (P,pos,q)⟩
variable {tl a1 d:Addr}{r L:Row}{z:Tz}
theorem zyd (T:TT cls m tl) (hS:m sp=some (.ro oS (ns.map V.int))) (h1:m a1=some (.list (rv r))) (hd:m d=some (.list (rv L))) (kr:zg r) (nr:NE r) (pr:phi r<50) (kL:zg L) (nL:NE L) (pL:phi L<50) (h: ∀m',Kl m m'→Q (.bool true) m'):
  zk (zya cls z) (zak.drop 6) (fun fl σ'=>Q (retV fl) σ'.mem) ⟨[some (.obj sp),some (.obj a1),some (.str (side (-1) r)),some (.str (side 1 r)),some (.obj tl),some (.str (side (-1) L)),some (.str (side 1 L)),some (.obj d),none,none,none,none,none,none,none,none,none],m⟩:=by
 unfold zak
 show zk _ (_::_::[]) _ _
 refine za fun Q8 n8 r8=>?_
 simp only[r_sfr]
 dsimp only[r_lit,r_var,r_bin,r_neg,r_not,r_list,r_tup,r_cmp,r_band,r_bor,r_idx,r_slc,r_attr,r_bi,r_call,r_me,r_imeth,r_comp,r_ch2,r_es0,r_es1,r_ch1,r_bo1,r_bo2,r_tnot,r_tband,r_tbor,r_tcmp,r_tvar,r_tcall,r_tme,r_tidx,r_tbi,r_ts0,r_ts1,r_tgs0,r_tgs1,r_sexpr,r_sassign,r_saug,r_sdel,r_sife,r_swhl,r_sfr,r_sret,r_ss0,r_ss1,tg_var,tg_tup,tg_idx,tg_slc,bin_add,bin_sub,bin_mul,bin_div,bin_mod,bin_cat,cmp_eqi,cmp_eqs,cmp_nei,cmp_nes,cmp_lt,cmp_le,cmp_gt,cmp_ge,tr_none,tr_bool,tr_int,tr_str,tr_tup,ix_str,ix_tup,sl_ii,sl_in,sl_ni,bi_lens,bi_lent,bi_min,bi_rng,bi_rng2,me_find,me_find2,ok_find,me_app,ok_app,me_ins,me_pop,me_join,me_ends,me_starts,ok_ins,ok_pop,ok_join,ok_ends,ok_starts,it_str,it_rng,neg_int,aug_addi,aug_adds,aug_subi,St.set,St.setAll,List.map_cons,List.map_nil,List.replicate,List.cons_append,List.nil_append,List.getElem?_cons_succ,List.getElem?_cons_zero,List.set_cons_succ,List.set_cons_zero,List.length_cons,List.length_nil,dreduceIte,retV,z08]
 refine⟨_,.inr ⟨oS,hS⟩,?_⟩
 obtain⟨c,hc9,ec⟩:=zls ns.sum 9 (by decide)
 replace ec:ns.sum%9=(c:Int):=ec
 rw[ec]
 refine⟨by decide,fun c1 hc1 c2 hc2 o ho=>?_⟩
 have gA:=Gr.new hc1 (.list [V.int 4,V.int (c:Nat)])
 have gB:=Gr.new hc2 (.list [V.int 4])
 have q1:=ups m c1 (.list [V.int 4,V.int (c:Nat)])
 generalize upd m c1 (.list [V.int 4,V.int (c:Nat)])=mA at *
 have q2:=ups mA c2 (.list [V.int 4])
 replace q1:=gB _ _ q1
 generalize upd mA c2 (.list [V.int 4])=mB at *
 have gC:=Gr.new ho (.list [V.tup [V.obj a1,V.str (side (-1) r),V.str (side 1 r),V.obj c1],V.tup [V.obj d,V.str (side (-1) L),V.str (side 1 L),V.obj c2]])
 have q3:=ups mB o (.list [V.tup [V.obj a1,V.str (side (-1) r),V.str (side 1 r),V.obj c1],V.tup [V.obj d,V.str (side (-1) L),V.str (side 1 L),V.obj c2]])
 replace q1:=gC _ _ q1
 replace q2:=gC _ _ q2
 generalize upd mB o (.list [V.tup [V.obj a1,V.str (side (-1) r),V.str (side 1 r),V.obj c1],V.tup [V.obj d,V.str (side (-1) L),V.str (side 1 L),V.obj c2]])=m7 at *
 have g:=(gA.trans gB).trans gC
 clear gA gB gC hc1 hc2 ho
 refine(show ∃vs,m7 o=some (.list vs)∧sma vs.length∧_ from⟨_,q3,(by unfold sma;exact(by decide:2≤1000000)),?_⟩)
 refine⟨q3,rfl,?_⟩
 refine z5d (cs:=[4,c]) (T.gr g) (g _ _ h1) kr nr pr q1 (fun x hx=>?_) (show 2≤9 by decide) fun m8 x12 x13 x14 x15 x16 T8 k8=>⟨k8.l q3,rfl,?_⟩
 ·rcases List.mem_cons.mp hx with rfl | hx
  ·decide
  ·rw[Bv.mp hx];exact Nat.le_of_lt_succ hc9
 refine z5d (cs:=[4]) T8 (k8.l (g _ _ hd)) kL nL pL (k8.l q2) (fun x hx=>by rw[Bv.mp hx];decide) (by decide) fun m9 x12 x13 x14 x15 x16 T9 k9=>⟨(k8.trans k9).l q3,n8 _ (ssn ?_)⟩
 walk_at "D"
 exact h _ (((Kl.gr g).trans k8).trans k9)
theorem z3d (hT:TZ (za9 cls) (tz4 P pos q) m tl) (T:TT cls m tl) (hS:m sp=some (.ro oS (ns.map V.int))) (h1:m a1=some (.list (rv r))) (kr:zg r) (nr:NE r) (pr:phi r≤40) (h: ∀m',Kl m m'→Q (.bool true) m'):
  zk (zya cls (tz4 P pos q)) (zak.drop 4) (fun fl σ'=>Q (retV fl) σ'.mem) ⟨[some (.obj sp),some (.obj a1),some (.str (side (-1) r)),some (.str (side 1 r)),some (.obj tl),none,none,none,none,none,none,none,none,none,none,none,none],m⟩:=by
 unfold zak
 show zk _ (_::_::zak.drop 6) _ _
 have s1:=zii (-1) r
 have s2:=zii 1 r
 refine za fun Q6 n6 r6=>?_
 walk_at "D"
 refine⟨by unfold sma;exact ze 38863569724360351277392069160 rfl pr s1,by unfold sma;exact ze 38863569724360351277392069160 rfl pr s2,rfl,n6 _ ?_⟩
 rw[show zcd (side (-1) r) none (some 10)=(side (-1) r).take 10 from zhf _ 10,show zcd (side 1 r) none (some 10)=(side 1 r).take 10 from zhf _ 10]
 refine za fun Q7 n7 r7=>?_
 walk_at "D"
 have t1:((side (-1) r).take 10).length≤10:=by rw[An];exact Nat.min_le_left _ _
 have t2:((side 1 r).take 10).length≤10:=by rw[An];exact Nat.min_le_left _ _
 generalize (side (-1) r).take 10=a at *
 generalize (side 1 r).take 10=b at *
 refine⟨zd3 hT rfl,.main tl a b hT (by exact ze 851168872849747488891994664 rfl t1 t2) fun m6 d L g6 hdn hd R1=>n7 _ ?_⟩
 have G:=ziz R1
 have hφ:=zja G.n G.k
 have k1:=G.m
 have k2:=G.p
 subst k1 k2
 exact zyd (T.gr g6) (g6 _ _ hS) (g6 _ _ h1) hd kr nr (by exact zm 7459163298857512 rfl pr) G.k G.n (by exact zj 1100778206228448799190283271290487336 rfl hφ t1 t2) fun m' k=>h m' ((Kl.gr g6).trans k)
theorem z5p (hS:m sp=some (.ro oS (ns.map V.int))) (hP:m P=some (.tab pos q)) (hn:ns.length≤63) (h: ∀m',Kl m m'→Q (.bool true) m'):
  zk (zya cls (tz4 P pos q)) zak (fun fl σ'=>Q (retV fl) σ'.mem) ⟨[V.obj sp].map some++List.replicate 16 none,m⟩:=by
 show zk _ _ _ ⟨[some (.obj sp),none,none,none,none,none,none,none,none,none,none,none,none,none,none,none,none],m⟩
 obtain⟨pr,kr,nr⟩:=z0i (ns.take 8)
 have l8:(ns.take 8).length≤8:=by rw[An];exact Nat.min_le_left _ _
 replace pr:phi (znc (ns.take 8))≤40:=ze 6649173878823214698463784 rfl pr l8
 unfold zak
 show zk _ (_::_::_::_::zak.drop 4) _ _
 refine za fun Q1 n1 r1=>?_
 simp only[r_sassign]
 refine zww hS hn rfl fun a1 m1 g1 h1=>?_
 dsimp only[r_tgs1,r_tgs0,tg_var,St.set,List.set_cons_succ,List.set_cons_zero]
 refine n1 _ (za fun Q2 n2 r2=>?_)
 generalize znc (ns.take 8)=r at *
 walk_at "D"
 refine .side a1 (-1) r h1 (by exact zm 518476983382835752 rfl pr) fun m2 g2=>?_
 refine .side a1 1 r (g2 _ _ h1) (by exact zm 518476983382835752 rfl pr) fun m3 g3=>?_
 refine⟨rfl,n2 _ (za fun Q3 n3 r3=>?_)⟩
 have g13:=(g1.trans g2).trans g3
 replace h1:=g3 _ _ (g2 _ _ h1)
 walk_at "D"
 refine .tool (fun tl dd m4 g4 ht4 hd4 hne h4 h4'=>n3 _ (za fun Q4 n4 r4=>?_))
 dsimp only[r_lit,r_var,r_bin,r_neg,r_not,r_list,r_tup,r_cmp,r_band,r_bor,r_idx,r_slc,r_attr,r_bi,r_call,r_me,r_imeth,r_comp,r_ch2,r_es0,r_es1,r_ch1,r_bo1,r_bo2,r_tnot,r_tband,r_tbor,r_tcmp,r_tvar,r_tcall,r_tme,r_tidx,r_tbi,r_ts0,r_ts1,r_tgs0,r_tgs1,r_sexpr,r_sassign,r_saug,r_sdel,r_sife,r_swhl,r_sfr,r_sret,r_ss0,r_ss1,tg_var,tg_tup,tg_idx,tg_slc,bin_add,bin_sub,bin_mul,bin_div,bin_mod,bin_cat,cmp_eqi,cmp_eqs,cmp_nei,cmp_nes,cmp_lt,cmp_le,cmp_gt,cmp_ge,tr_none,tr_bool,tr_int,tr_str,tr_tup,ix_str,ix_tup,sl_ii,sl_in,sl_ni,bi_lens,bi_lent,bi_min,bi_rng,bi_rng2,me_find,me_find2,ok_find,me_app,ok_app,me_ins,me_pop,me_join,me_ends,me_starts,ok_ins,ok_pop,ok_join,ok_ends,ok_starts,it_str,it_rng,neg_int,aug_addi,aug_adds,aug_subi,St.set,St.setAll,List.map_cons,List.map_nil,List.replicate,List.cons_append,List.nil_append,List.getElem?_cons_succ,List.getElem?_cons_zero,List.set_cons_succ,List.set_cons_zero,List.length_cons,List.length_nil,dreduceIte,retV,zol]
 refine⟨tl,dd,_,rfl,h4,h4',by trivial,rfl,n4 _ ?_⟩
 have g5:Gr m3 (upd m4 dd (.dict (zn5 "Diff_Timeout" (.int 1) zem))):=g4.set hd4 _
 have g15:=g13.trans g5
 refine z3d ⟨dd,_,by rw[upn _ _ hne];exact h4,ups _ _ _,fun n hf=>?_,rfl,fun a p' q' e=>?_⟩ ⟨dd,_,by rw[upn _ _ hne];exact h4,ups _ _ _,by rw[zgs (by decide +kernel)];rfl⟩ (g15 _ _ hS) (g5 _ _ h1) kr nr pr fun m' k=>h m' ((Kl.gr g15).trans k)
 ·rw[zjf,if_neg,z2g n hf]
  exact z11 n (List.contains_iff_mem.mp hf)
 ·cases e;exact g15 _ _ hP
end
noncomputable def zsh:List String:=["_law_TEXTS","_law_side","_law_plain","_law_slides","_law_kinds","_law_spread","diff_match_patch"]
noncomputable def zgj:List String:=["diff_commonPrefix","diff_commonSuffix","diff_cleanupMerge","diff_main","diff_compute","diff_bisect","diff_bisectSplit","diff_halfMatch","diff_cleanupEfficiency"]
noncomputable def ck4 (K:Frag) (f:Addr) (ps rest:List Str) (names:List (Str×NameKind)) (cells:List Str) (body:List Sm):Bool:=zjd K f ps rest (ze3 ps rest names zsh zgj cells) body
noncomputable def lst4 (K:Frag):List Bool:=[
 z4b K zsh,zuh K (zdd K) zgj,z10 K (zdd K),z4s K,zvu K,zsh.all (fun n=>fnV K n== .ref (fnA K n)),zkb K (zdd K) zsh zgj,zus K (zdd K) zsh zgj,
 ck4 K (meA K (zdd K) "diff_cleanupEfficiency") zce zbs zbk zbm zz,
 z3u K (meA K (zdd K) "diff_halfMatch") zsh zgj 91,
 ck4 K (fnA K "_law_TEXTS") zl4 zjp zh7 zh4 zb2,
 ck4 K (fnA K "_law_side") zmm zkc zi9 zjz zcr,
 makesIn K (zdd K),findIn K (.ref (zdd K)) "__init__"==some (some (.ref (meA K (zdd K) "__init__"))),typeIn K (.ref (meA K (zdd K) "__init__"))==some (.type "function"),
 ck4 K (meA K (zdd K) "__init__") zwo zru zpp zpn zg6,
 fnV K "law"== .ref (fnA K "law"),codeHdIn K 91 87,noTabs K,ck4 K (fnA K "law") z25 zue zrq zr0 zak,
 ck4 K (fnA K "_law_plain") zl7 zj8 zh1 zh9 zP,
 ck4 K (fnA K "_law_slides") zkd zh0 zhe zhg zbn,
 ck4 K (fnA K "_law_kinds") zlk zj6 zh6 zh2 zbv,
 ck4 K (fnA K "_law_spread") zke zh3 zhh zgz zbj]
noncomputable def z4c (K:Frag):Bool:=(lst4 K).all id
theorem pk {l:List Bool} (h:l.all id=true) (i:Nat) {b:Bool} (e:l[i]? =some b):b=true:=Bo.mp h b (Bp e)
noncomputable def z9b (f:String) (vs:List V) (Q:V→Mem→Prop) (m:Mem):Prop:=
 ∃(d:Addr) (R W:Row) (a0 s:Int),f="_law_kinds"∧vs=[.obj d,.int a0,.int s]∧(s=1∨s=-1)∧m d=some (.list (rv R))∧zg R∧Way R (a0+s) s W∧R.length≤1000∧W.length≤1000∧(-1000≤a0+s∧a0+s≤1000)∧∀m',Gr m m'→Q (.int (bn (zfp W):Nat)) m'
noncomputable def pcK (cls:Addr):PC:={za9 cls with call:=z9b}
section
variable {G:GS}{A:Around}{P:Addr}
structure All4 (G:GS) (P:Addr):Prop where
 gok:G.ok
 gbi:G.bi
 hf:G.fns=zsh
 hme:G.meths=zgj
 hk:z4c G.K=true
 T:BM G
 C:CodeHd G.base 91 P
theorem All4.B (a:All4 G P):Base G (za9 (zdd G.K)):=⟨a.gok,a.gbi,z8o (pk a.hk 2 rfl),by rw[a.hf];exact pk a.hk 0 rfl,by rw[a.hme];exact pk a.hk 1 rfl⟩
theorem All4.fv (a:All4 G P): ∀n,n∈zsh→fnV G.K n= .ref (fnA G.K n):=fun n hn=>Bh.mp (Bo.mp (pk a.hk 5 rfl) n hn)
theorem All4.hF (a:All4 G P): ∀n,n∈zsh→n∈G.fns:=fun n hn=>by rw[a.hf];exact hn
theorem All4.hM (a:All4 G P): ∀n,n∈zgj→n∈G.meths:=fun n hn=>by rw[a.hme];exact hn
theorem All4.cm (a:All4 G P):zkb G.K (zdd G.K) G.fns G.meths=true:=by rw[a.hf,a.hme];exact pk a.hk 6 rfl
theorem All4.dm (a:All4 G P):zus G.K (zdd G.K) G.fns G.meths=true:=by rw[a.hf,a.hme];exact pk a.hk 7 rfl
noncomputable abbrev z4 (K:Frag) (P:Addr):Tz:=tz4 P (zr5 K (meA K (zdd K) "diff_halfMatch")) (hmQ K (meA K (zdd K) "diff_halfMatch"))
theorem All4.half (a:All4 G P):zpy G (zdd G.K) (z4 G.K P) (HT 1):=z1h a.B a.cm (by rw[a.hf,a.hme];exact pk a.hk 9 rfl) a.T a.C 1
theorem zxv (a:All4 G P) {t d:Addr}{c:Nat}{r:Row}{Q:V→Mem→Prop}{m:Mem} (lv:Lv A 300) (hT:TC (za9 (zdd G.K)) c m t) (hc:c≤8) (hm:m d=some (.list (rv r))) (hK:zg r) (hN:NE r) (hφ:phi r<50)
  (q: ∀m' S C,Fin c r S→(S=r∧C=r∨S≠r∧C=zA 100 S)→m' d=some (.list (rv C))→Ext d m m'→Q .none m'):zc6 G A (.ref (meA G.K (zdd G.K) "diff_cleanupEfficiency")) [.obj t,.obj d] Q m:=by
 have lv1:Lv A (200+1):=lv.less (by exact zqp 170975162008632 rfl)
 have run: ∀env,({za9 (zdd G.K) with meth:=zna (zdd G.K) 100}:PC).run G (A.deeper env):=fun env=>
  zfq (a.B.swap rfl rfl rfl) (fun _ _ _ _ _ h=>h.elim) (fun f _ vs Q m hc=>zma a.B a.cm 100 _ ((lv1.deeper env).less (by exact zqp 126444926010424 rfl)) f vs Q m hc) fun _ _ _ _ h=>h.elim
 exact(zbi (P:={za9 (zdd G.K) with meth:=zna (zdd G.K) 100}) a.gok a.gbi (pk a.hk 8 rfl) lv1.room (fun env=>(lv1.deeper env).rm) run a.hF a.hM rfl
  (z8l (zhp (zdd G.K) "Diff_EditCost" (by decide +kernel)) rfl rfl rfl hT hc (fun L m Q hT hm hK hp q=> .inr (.inr ⟨rfl,t,d,L,rfl,hT,hm,hK,hp,by exact zm 9168204161431372329 rfl hp,q⟩)) hm hK hN hφ q)).toS
theorem All4.call {P':PC}{n:String}{ps rest:List Str}{names:List (Str×NameKind)}{cells:List Str}{body:List Sm}{vs:List V}{Q:V→Mem→Prop}{m:Mem}{k:Nat} (a:All4 G P) (lv:Lv A (k+1)) (hn:n∈zsh) (hk:ck4 G.K (fnA G.K n) ps rest names cells body=true) (run: ∀env,P'.run G (A.deeper env)) (hl:vs.length=ps.length)
  (w:zk P' body (fun fl σ'=>Q (retV fl) σ'.mem) ⟨vs.map some++List.replicate rest.length none,m⟩):zc6 G A (fnV G.K n) vs Q m:=by
 rw[a.fv n hn]
 exact(zbi a.gok a.gbi hk lv.room (fun env=>(lv.deeper env).rm) run a.hF a.hM hl w).toS
theorem runK (a:All4 G P) {k:Nat} (lv:Lv A (k+1)):(pcK (zdd G.K)).run G A:=by
 refine zfq (a.B.swap rfl rfl rfl) (fun n hn vs Q m hc=>?_) (fun _ _ _ _ _ h=>h.elim) (fun _ _ _ _ h=>h.elim)
 obtain⟨d,R,W,a0,s,rfl,rfl,h1,h2,h3,h4,h5,h6,h7,q⟩:=hc
 exact a.call lv (by decide) (pk a.hk 22 rfl) (fun env=>zzd a.B) rfl (z2o h1 rfl h2 h3 h4 h5 h6 h7 q)
theorem zvj (a:All4 G P) {t:Addr}{x y:Tx}{Q:V→Mem→Prop}{m:Mem} (lv:Lv A (265+1)) (h1:TZ (za9 (zdd G.K)) (z4 G.K P) m t) (h2:x.length+y.length≤40) (q: ∀m' r L,Gr m m'→m r=none→m' r=some (.list (rv L))→MainR (HT 1) x y L→Q (.obj r) m'):
  zc6 G A (.ref (meA G.K (zdd G.K) "diff_main")) [.obj t,.str x,.str y,.bool false] Q m:=by
 have hd':=a.dm
 unfold zus at hd'
 simp only[Cc] at hd'
 have run: ∀env,(pcD (zdd G.K) (HT 1) (z4 G.K P) 164).run G (A.deeper env):=fun env=>zfq (a.B.swap rfl rfl rfl) (fun _ _ _ _ _ h=>h.elim) (fun f _ vs Q m hc'=>ztu a.B a.cm a.dm a.half 164 _ (lv.deeper env) f vs Q m hc') (fun _ _ _ _ h=>h.elim)
 refine(zle (P:=pcD (zdd G.K) (HT 1) (z4 G.K P) 164) (c:=3) (j:=1) a.gok a.gbi hd'.1.1.1 lv.room (fun env=>(lv.deeper env).rm) run (fun _ h=>h) (fun _ h=>h) rfl rfl (by decide) ?_).toS
 exact zzu (n:=x.length+y.length) (zzg _ _ _ 164) (zp6 (ntr (Nat.add_le_add_right (Nat.mul_le_mul_left 4 h2) 3) (by decide)) h2) zmx h1 (Al _) h2 q
theorem run4 (a:All4 G P) (lv:Lv A 400):(zya (zdd G.K) (z4 G.K P)).run G A:=by
 have lv9:Lv A (399+1):=lv
 have r0:=fun env=>zzd (A:=A.deeper env) a.B
 refine zfq (a.B.swap rfl rfl rfl) (fun n hn vs Q m hc=>?_) (fun n hn vs Q m hc=>?_) (fun _ _ _ _ h=>h.elim)
 ·replace hc:LawC4 (zdd G.K) Q m n vs:=hc
  cases hc with
  | texts q=>exact a.call lv9 (by decide) (pk a.hk 10 rfl) r0 rfl (z2i q)
  | side d k r h1 h2 q=>exact a.call lv9 (by decide) (pk a.hk 11 rfl) r0 rfl (z4u h1 (ntr h2 (by decide)) q)
  | plain d r h1 h2 h3 q=>exact a.call lv9 (by decide) (pk a.hk 20 rfl) r0 rfl (z1q h1 h2 h3 q)
  | slides d r h1 h2 h3 q=>exact a.call lv9 (by decide) (pk a.hk 21 rfl) r0 rfl (zyp h1 (ntr h3 (by decide)) h2 q)
  | spread d r c h1 h2 h3 h4 q=>exact a.call lv9 (by decide) (pk a.hk 23 rfl) (fun env=>runK a (k:=398) (lv9.deeper env)) rfl (zw7 (P:=pcK (zdd G.K)) (fun d R W a0 s m Q h1 h2 h3 h4 h5 h6 h7 q=>⟨d,R,W,a0,s,rfl,rfl,h1,h2,h3,h4,h5,h6,h7,q⟩) h1 h2 h3 h4 q)
  | tool q=>
   rw[a.fv _ (by decide)]
   refine zrj a.gok (pk a.hk 12 rfl) (Bh.mp (pk a.hk 13 rfl)) (Bh.mp (pk a.hk 14 rfl)) fun x d hx hd hne=>?_
   have lv':=lv9.call (k:=399) (zdd G.K)
   refine zbi a.gok a.gbi (pk a.hk 15 rfl) lv'.room (fun env=>((lv'.less (by exact Cb _:398+1≤399)).deeper env).rm) (fun env=>zzd a.B) a.hF a.hM rfl (z66 (zdd G.K) x d _ (ups _ _ _) (by rw[upn _ _ (Ne.symm hne),ups]) (fun r m'=>r=V.none∧Q (.obj x) m') fun m' h1 h2 h3=>⟨rfl,q x d m' (fun a o e=>?_) hx hd hne h1 h2⟩)
   have nx:a≠x:=fun z=>by subst z;rw[hx] at e;exact(Am _ e.symm).elim
   have nd:a≠d:=fun z=>by subst z;rw[hd] at e;exact(Am _ e.symm).elim
   exact h3 a o nd (by rw[upn _ _ nx,upn _ _ nd];exact e)
 ·replace hc:LawM4 (zdd G.K) (z4 G.K P) Q m n vs:=hc
  cases hc with
  | cm t d r h1 h2 h3 h4 q=>exact zma a.B a.cm 100 A (lv.less (by exact zqp 234197065532472 rfl)) _ _ Q m (.inr (.inr ⟨rfl,t,d,r,rfl,h1,h2,h3,h4,by exact zm 9168204161431372329 rfl h4,q⟩))
  | main t x y h1 h2 q=>exact zvj a (lv.less (by decide)) h1 h2 q
  | eff t d c r h1 h2 h3 h4 h5 h6 q=>exact zxv a (lv.less (by exact Nat.le_add_left ..)) h1 h2 h3 h4 h5 h6 q
end
theorem go4 {K:Frag}{sc P:Addr}{ns:List Int} (hn:ns.length≤63) (hk:z4c K=true)
  {ol:Obj} {m:Mem} (G:GS) (e3:G.K=K) (e4:G.fns=zsh) (e5:G.meths=zgj) (gok:G.ok) (gbi:G.bi) (T:BM G) (C:CodeHd G.base 91 P) (m1:m sc=some (.ro ol (ns.map V.int))) (m2:m P=some (.tab (zr5 K (meA K (zdd K) "diff_halfMatch")) (hmQ K (meA K (zdd K) "diff_halfMatch")))):
  ziw G callerA (.ref (fnA K "law")) [.obj sc] (fun r m'=>r= .bool true∧Kl m m') m:=by
 subst e3
 have a:All4 G P:=⟨gok,gbi,e4,e5,hk,T,C⟩
 have lv:Lv callerA (499+1):=zx2
 have W:=z5p (cls:=zdd G.K) (Q:=fun r m'=>r=V.bool true∧Kl m m') m1 m2 hn fun m' g=>⟨rfl,g⟩
 exact zbi gok gbi (pk hk 19 rfl) lv.room (fun env=>(lv.deeper env).rm) (fun env=>run4 a ((lv.deeper env).less (by exact Nat.le_add_left ..))) a.hF a.hM rfl W
theorem tab4 {K:Frag}{h:Heap} (KX:K.In h) (hT8: ∀P,P∈[87]→h.get? P=some (tabObj #[])) (hK:z4c K=true):TabsAt [(91,87)] h:=
 List.forall_mem_cons.mpr ⟨⟨codeHd_of_K (c:=91) (P:=87) KX (pk hK 17 rfl),hT8 87 (Bv.mpr rfl)⟩,fun _ h=>nomatch h⟩
theorem law4_top {prog:Program}{w:World}{p:Program}{loose:List Str}{mean:ExcName→Option Value}{mg mb:Str→Option Value}{K:Frag}{sc fa:Addr}{s:Shared}
  {vals:List Value} {ns:List Int} {R:Result→Shared→Prop}
  (hT9:TabsAt [(91,87)] s.heap) (KX:K.In s.heap) (T:Top p loose mean mg mb s.heap) (hl:s.heap.IsList sc vals.toArray) (hI:IntsAre vals ns) (hn: ¬(63:Int)<(ns.length:Int))
  (hK:z4c K=true) (hfa:mg (Str.ofString "law")=some (.ref fa))
  (hpost: ∀s':Shared,(∃h tk,s'={s with heap:=h,toks:=tk})→(∀b o,(ghostOf s.heap [(91,87)]).get? b=some o→s'.heap.get? b=some o)→(∃ps,s'.heap.get? 87=some (tabObj ps))→R (.ok (.ret (.bool true))) s'):
  codeAny (model prog w) callerA (.call (.ref fa) ⟨[.ref sc],[]⟩) R s:=by
 have ef:=z5j KX T.g hfa (Bh.mp (pk hK 16 rfl))
 have hn':ns.length≤63:=zm 71495254502546980 rfl hn
 rw[ef]
 exact zxl (fns:=zsh) (meths:=zgj) hT9 (ghost_K hT9 KX (pk hK 18 rfl)) (ghost_top hT9 T) hl hI (pk hK 3 rfl) (pk hK 4 rfl) (fun ol G m e1 e2 e3 e4 e5 gok gbi bm C m1 m2=>go4 hn' hK G e3 e4 e5 gok gbi bm C m1 m2) hpost
end Mine.Internal
open PySem PySem.W PyProof.Rows
set_option Elab.async false
namespace Mine.Internal
noncomputable def vw:Program:=view PySem.Challenge.pw_im0119_04 [0,2,4,5,6,7,8,9,10]
noncomputable def topHook:Hook:=z45 z4c [2,3,15,17,18,20,21,29,31,32,34,35,36,37,39,40,42,43,44,46,47,49,50,51,53,54,56,57,58,60,61,63,64,65,67,68,70,71,72,74,75,77,78,79,81,82,84,85,86,88,89,91,92,93,95,96,98,99,100,102,103,105,106,107,109,110,112,113,114,116,117,119,120,121,123,124,126,127,128,130,131,133,134,135,136,137,138,139,142,144,145,147,148,149,152,153,154,157,158,159,161,162,164,165,166,168,169,171,172,173,175,176,178,179,180,183,184] [87]
set_option maxRecDepth 100000 in
theorem z9a: ∀w:World,(fencedOpening treeTable PySem.Challenge.pw_im0119_04 w 1200).map (fun s=>(s.heap,s.gens,s.drawn,s.toks))=some (boot_heap w.params,Array.mk [],boot_drawn,boot_toks):=
 boot_open rfl (by decide) (fun s=>rfl)
set_option maxRecDepth 100000 in
theorem left1:LeftO PySem.Challenge.pw_im0119_04 vw ["diff_match_patch"] (fun s=>xlAt vw [] s&&recOk [] s) topHook.obs topHook.val 1200:=by
 refine zum z9a fun w os=>?_
 kernel_rfl
end Mine.Internal
set_option maxRecDepth 100000 in
set_option maxHeartbeats 8000000 in
theorem PySem.Challenge.cw_im0119_04_holds : PySem.Challenge.rw_im0119_04.Holds := by
 w_on
 refine holds_law (by kernel_rfl) fun said=>?_
 refine holds_open (q:=Mine.Internal.vw) (XP:=XL Mine.Internal.vw []) (YP:=Mine.Internal.topHook.says) Mine.Internal.left1 Mine.Internal.topHook.of Mine.Internal.topHook.keeps (fun s e=>xl_of s (Bool.and_eq_true_iff.mp e).1) XL.keeps (by rfl) (by rfl) (by rfl) (fun s e=>recFacts_of (Bool.and_eq_true_iff.mp e).2) (by rfl) (by first | assumption | decide +kernel) (by decide +kernel) ⟨rfl,rfl,rfl,rfl,rfl,by decide +kernel⟩ ?hw ?hc
 (case hw=>w_witness2)
 intro w s₀ s₁ mg mb G Y fa o pm cd doc dV kV ho hd hcd hD hmg hg args vals as hpre hlay hrd hwl hlo
 obtain⟨⟨K,KX,hchk⟩,hT8⟩:=Y
 refine Ground.open G ?_
 intro T B D TE TW
 try (refine guard_noD D (by decide +kernel) ?_;clear D)
 wrow_args hpre hlay hrd hwl hlo
 have hT9:=Mine.Internal.tab4 KX hT8 hchk
 refine enter_call ?_
 kn_posts
 refine' Mine.Internal.law4_top hT9 KX T ?minehl ?minehI ?minehn hchk hmg ?minehpost
 (case minehl=>assumption)
 (case minehI=>assumption)
 (case minehn=>assumption)
 (case minehpost=>(intro s' hs hkeep hgr;obtain⟨h,tk,rfl⟩:=hs;refine And.intro ?minep1 (And.intro hgr trivial);(show GoodW _ _ _ _ _ (.ok (.ret (.bool true))) _);refine' And.intro (Or.inl ⟨_,_,[],rfl,raisesW_false ?minep2,.bool true,?minep3,unshared_nil⟩) ⟨hkeep,rfl,?minep4⟩;(case minep2=>wrow_none_raised);(case minep3=>first | wrow_post | kc_post);(case minep4=>assumption)))
