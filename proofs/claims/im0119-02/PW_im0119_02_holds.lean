import PyProof.Rows.All
import Wide.All
import OpenK.AllK
import Wide.FinOn
import PySem.Challenge.RW_im0119_02
set_option Elab.async false
set_option genSizeOf false
set_option genInjectivity false
set_option bootstrap.genMatcherCode false
set_option compiler.extract_closed false
set_option autoImplicit false
set_option maxRecDepth 10000
set_option linter.unusedVariables false
set_option linter.unusedSimpArgs false
namespace Mine.Internal
theorem ntr {a b c:Nat}:a≤b→b≤c→a≤c:=Nat.le_trans
set_option genCtorIdx false in
inductive AE where
 | n (k:Nat)
 | v (i:Nat)
 | a (x y:AE)
 | s (x y:AE)
 | m (k:Nat) (x:AE)
 | r (k:Nat) (x:AE)
 | g (x:AE)
 | c (x:AE)
noncomputable def atN:List Nat→Nat→Nat
 | [],_=>0
 | x::_,0=>x
 | _::l,i+1=>atN l i
noncomputable def atI:List Int→Nat→Int
 | [],_=>0
 | x::_,0=>x
 | _::l,i+1=>atI l i
noncomputable def evN (N:List Nat):AE→Nat
 | .n k=>k
 | .v i=>atN N i
 | .a x y=>evN N x+evN N y
 | .s _ _=>0
 | .m k x=>k * evN N x
 | .r k x=>evN N x * k
 | .g _=>0
 | .c _=>0
noncomputable def evI (N:List Nat) (I:List Int):AE→Int
 | .n k=>(k:Int)
 | .v i=>atI I i
 | .a x y=>evI N I x+evI N I y
 | .s x y=>evI N I x-evI N I y
 | .m k x=>(k:Int) * evI N I x
 | .r k x=>evI N I x * (k:Int)
 | .g x=>- evI N I x
 | .c x=>(evN N x:Nat)
noncomputable def uni:Nat→List Int
 | 0=>[1]
 | k+1=>0::uni k
noncomputable def z2x:List Int→List Int→List Int
 | [],l=>l
 | x::l,k=>match k with
  | []=>x::l
  | y::k=>(x+y)::z2x l k
noncomputable def z3t (k:Int) (l:List Int):List Int:=l.map (k * ·)
noncomputable abbrev LF:=Int×List Int×List Int
noncomputable def zr8 (x y:LF):LF:=(x.1+y.1,z2x x.2.1 y.2.1,z2x x.2.2 y.2.2)
noncomputable def zsn (k:Int) (x:LF):LF:=(k * x.1,z3t k x.2.1,z3t k x.2.2)
noncomputable def lnN:AE→LF
 | .n k=>(k,[],[])
 | .v i=>(0,uni i,[])
 | .a x y=>zr8 (lnN x) (lnN y)
 | .s _ _=>(0,[],[])
 | .m k x=>zsn k (lnN x)
 | .r k x=>zsn k (lnN x)
 | .g _=>(0,[],[])
 | .c _=>(0,[],[])
noncomputable def lnI:AE→LF
 | .n k=>(k,[],[])
 | .v i=>(0,[],uni i)
 | .a x y=>zr8 (lnI x) (lnI y)
 | .s x y=>zr8 (lnI x) (zsn (-1) (lnI y))
 | .m k x=>zsn k (lnI x)
 | .r k x=>zsn k (lnI x)
 | .g x=>zsn (-1) (lnI x)
 | .c x=>lnN x
noncomputable def dot:List Int→List Int→Int
 | [],_=>0
 | c::l,r=>match r with
  | []=>0
  | x::r=>c * x+dot l r
theorem ztc: ∀(l k r:List Int),dot (z2x l k) r=dot l r+dot k r:=fun l=>by
 induction l with
 | nil=>exact fun k r=>(Int.zero_add _).symm
 | cons x l ih=>
  intro k r
  cases k with
  | nil=>exact(Int.add_zero _).symm
  | cons y k=>cases r with
   | nil=>rfl
   | cons z r=>
    show(x+y) * z+dot (z2x l k) r=(x * z+dot l r)+(y * z+dot k r)
    rw[ih,Int.add_mul,Int.add_assoc,Int.add_assoc,Int.add_left_comm (y * z)]
theorem ztt (c:Int): ∀(l r:List Int),dot (z3t c l) r=c * dot l r:=fun l=>by
 induction l with
 | nil=>exact fun r=>(Int.mul_zero _).symm
 | cons x l ih=>
  intro r
  cases r with
  | nil=>exact(Int.mul_zero _).symm
  | cons z r=>
   show c * x * z+dot (z3t c l) r=c * (x * z+dot l r)
   rw[ih,Int.mul_add,Int.mul_assoc]
theorem zsu: ∀(k:Nat) (r:List Int),dot (uni k) r=atI r k:=fun k=>by
 induction k with
 | zero=>
  intro r
  cases r with
  | nil=>rfl
  | cons z r=>show 1 * z+0=z;rw[Int.one_mul,Int.add_zero]
 | succ k ih=>
  intro r
  cases r with
  | nil=>rfl
  | cons z r=>show 0 * z+dot (uni k) r=_;rw[Int.zero_mul,Int.zero_add,ih];rfl
theorem z37: ∀(N:List Nat) (k:Nat),atI (N.map Int.ofNat) k=(atN N k:Int):=fun N=>by
 induction N with
 | nil=>exact fun _=>rfl
 | cons x N ih=>exact fun k=>by cases k with
  | zero=>rfl
  | succ k=>exact ih k
section
variable (N:List Nat) (I:List Int)
noncomputable def evL (l:LF):Int:=l.1+(dot l.2.1 (N.map Int.ofNat)+dot l.2.2 I)
theorem zhq (x y:LF):evL N I (zr8 x y)=evL N I x+evL N I y:=by
 show x.1+y.1+(dot (z2x _ _) _+dot (z2x _ _) _)=(x.1+(dot _ _+dot _ _))+(y.1+(dot _ _+dot _ _))
 rw[ztc,ztc]
 generalize dot _ _=p,dot _ _=q,dot _ _=r,dot _ _=s
 ac_rfl
theorem zgf (k:Int) (x:LF):evL N I (zsn k x)=k * evL N I x:=by
 show k * x.1+(dot (z3t _ _) _+dot (z3t _ _) _)=k * (x.1+(dot _ _+dot _ _))
 rw[ztt,ztt,Int.mul_add,Int.mul_add]
theorem z6b: ∀e:AE,evL N I (lnN e)=(evN N e:Int):=fun e=>by
 induction e with
 | n k=>exact Int.add_zero _
 | v i=>exact(Int.zero_add _).trans ((Int.add_zero _).trans ((zsu i _).trans (z37 N i)))
 | a x y h1 h2=>exact(zhq N I _ _).trans (by rw[h1,h2];rfl)
 | m k x h=>exact(zgf N I _ _).trans (by rw[h];rfl)
 | r k x h=>exact(zgf N I _ _).trans (by rw[h,Int.mul_comm];rfl)
 | _=>rfl
theorem z67: ∀e:AE,evL N I (lnI e)=evI N I e:=fun e=>by
 induction e with
 | n k=>exact Int.add_zero _
 | v i=>exact(Int.zero_add _).trans ((Int.zero_add _).trans (zsu i _))
 | a x y h1 h2=>exact(zhq N I _ _).trans (by rw[h1,h2];rfl)
 | s x y h1 h2=>exact(zhq N I _ _).trans (by rw[zgf,h1,h2,Int.neg_one_mul];rfl)
 | m k x h=>exact(zgf N I _ _).trans (by rw[h];rfl)
 | r k x h=>exact(zgf N I _ _).trans (by rw[h,Int.mul_comm];rfl)
 | g x h=>exact(zgf N I _ _).trans (by rw[h,Int.neg_one_mul];rfl)
 | c x=>exact z6b N I x
end
noncomputable def aPI (d:Nat) (x y:Int):Prop:=match d with
 | 0=>x≤y
 | 1=>x<y
 | 2=>x=y
 | 3=>y=x
 | 4=> ¬y<x
 | _=> ¬y≤x
noncomputable def aPN (d:Nat) (x y:Nat):Prop:=match d with
 | 0=>x≤y
 | 1=>x<y
 | 2=>x=y
 | 3=>y=x
 | 4=> ¬y<x
 | _=> ¬y≤x
noncomputable def aS (d:Nat):Int:=match d with
 | 1=>-1
 | 5=>-1
 | _=>0
theorem sl0 (x y:Int):y+-1 * x+0=y-x:=by rw[Int.add_zero,Int.neg_one_mul,←Int.sub_eq_add_neg]
theorem sl1 (x y:Int):y+-1 * x+-1=y-(x+1):=by rw[Int.neg_one_mul,Int.sub_eq_add_neg,Int.neg_add,Int.add_assoc]
theorem zho {x y:Int} (h:x≤y):0≤y+-1 * x+0:=by rw[sl0];exact Int.sub_nonneg_of_le h
theorem zrj {x y:Int} (h:x<y):0≤y+-1 * x+-1:=by rw[sl1];exact Int.sub_nonneg_of_le h
theorem z0b {x y:Int} (h:0≤y+-1 * x+0):x≤y:=by rw[sl0] at h;exact Int.le_of_sub_nonneg h
theorem z0o {x y:Int} (h:0≤y+-1 * x+-1):x<y:=by rw[sl1] at h;exact Int.le_of_sub_nonneg h
noncomputable def kOk (d:Nat):Bool:=Nat.blt d 6
noncomputable def gOk (d:Nat):Bool:=Nat.ble d 1
theorem z53 {P:Nat→Prop} (h0:P 0) (h1:P 1) (h2:P 2) (h3:P 3) (h4:P 4) (h5:P 5): ∀d,kOk d=true→P d
 | 0,_=>h0
 | 1,_=>h1
 | 2,_=>h2
 | 3,_=>h3
 | 4,_=>h4
 | 5,_=>h5
theorem sI {x y:Int}: ∀d,kOk d=true→aPI d x y→0≤y+-1 * x+aS d:=
 z53 zho zrj (fun h=>zho (Int.le_of_eq h)) (fun h=>zho (Int.le_of_eq h.symm)) (fun h=>zho (Int.not_lt.mp h)) fun h=>zrj (Int.not_le.mp h)
theorem sN {x y:Nat}: ∀d,kOk d=true→aPN d x y→0≤(y:Int)+-1 * (x:Int)+aS d:=
 z53 (fun h=>zho (Int.ofNat_le.mpr h)) (fun h=>zrj (Int.ofNat_lt.mpr h)) (fun h=>zho (Int.ofNat_le.mpr (Nat.le_of_eq h))) (fun h=>zho (Int.ofNat_le.mpr (Nat.le_of_eq h.symm))) (fun h=>zho (Int.ofNat_le.mpr (Nat.not_lt.mp h))) fun h=>zrj (Int.ofNat_lt.mpr (Nat.not_le.mp h))
theorem gI {x y:Int}: ∀d,gOk d=true→0≤y+-1 * x+aS d→aPI d x y
 | 0,_=>z0b
 | 1,_=>z0o
theorem gN {x y:Nat}: ∀d,gOk d=true→0≤(y:Int)+-1 * (x:Int)+aS d→aPN d x y
 | 0,_=>fun h=>Int.ofNat_le.mp (z0b h)
 | 1,_=>fun h=>Int.ofNat_lt.mp (z0o h)
noncomputable def rdN:Nat→Nat→Nat×Nat
 | 0,c=>(0,c)
 | f+1,c=>match Nat.blt (c%16) 8 with
  | true=>(c%16,c/16)
  | false=>(c%16-8+8 * (rdN f (c/16)).1,(rdN f (c/16)).2)
noncomputable def rdE:Nat→Nat→AE×Nat
 | 0,c=>(.n 0,c)
 | f+1,c=>match c%8 with
  | 0=>(.n (rdN f (c/8)).1,(rdN f (c/8)).2)
  | 1=>(.v (rdN f (c/8)).1,(rdN f (c/8)).2)
  | 2=>(.a (rdE f (c/8)).1 (rdE f (rdE f (c/8)).2).1,(rdE f (rdE f (c/8)).2).2)
  | 3=>(.s (rdE f (c/8)).1 (rdE f (rdE f (c/8)).2).1,(rdE f (rdE f (c/8)).2).2)
  | 4=>(.m (rdN f (c/8)).1 (rdE f (rdN f (c/8)).2).1,(rdE f (rdN f (c/8)).2).2)
  | 5=>(.r (rdN f (c/8)).1 (rdE f (rdN f (c/8)).2).1,(rdE f (rdN f (c/8)).2).2)
  | 6=>(.g (rdE f (c/8)).1,(rdE f (c/8)).2)
  | _=>(.c (rdE f (c/8)).1,(rdE f (c/8)).2)
structure AT where
 d:Nat
 t:Nat
 w:Nat
 x:AE
 y:AE
noncomputable def rdA (f:Nat):Nat→Nat→List AT
 | 0,_=>[]
 | n+1,c=>match Nat.beq c 0 with
  | true=>[]
  | false=>⟨c%8,c/8%4,(rdN f (c/32)).1,(rdE f (rdN f (c/32)).2).1,(rdE f (rdE f (rdN f (c/32)).2).2).1⟩::rdA f n (rdE f (rdE f (rdN f (c/32)).2).2).2
noncomputable def arP (N:List Nat) (I:List Int):List AT→Prop
 | []=>False
 | t::l=>match t.t with
  | 0=>aPI t.d (evI N I t.x) (evI N I t.y)→arP N I l
  | 1=>aPN t.d (evN N t.x) (evN N t.y)→arP N I l
  | 2=>aPI t.d (evI N I t.x) (evI N I t.y)
  | _=>aPN t.d (evN N t.x) (evN N t.y)
noncomputable def iN:Int→Bool
 | .ofNat _=>false
 | .negSucc _=>true
noncomputable def iP (c:Int):Bool:=!iN (-c)
noncomputable def iZ (c:Int):Bool:=iP c&&!iN c
noncomputable def ngL (l:LF):Bool:=iN l.1&&(l.2.1.all iP&&l.2.2.all iZ)
noncomputable def slk (d:Nat) (x y:LF):LF:=zr8 (zr8 y (zsn (-1) x)) (aS d,[],[])
noncomputable def z7c (w:Nat) (l:LF):LF:=zsn (-(w:Int)) (zr8 l (1,[],[]))
noncomputable def ckA:List AT→LF→Bool
 | [],a=>ngL a
 | t::l,a=>match t.t with
  | 0=>kOk t.d&&ckA l (zr8 a (zsn t.w (slk t.d (lnI t.x) (lnI t.y))))
  | 1=>kOk t.d&&ckA l (zr8 a (zsn t.w (slk t.d (lnN t.x) (lnN t.y))))
  | 2=>gOk t.d&&ngL (zr8 a (z7c t.w (slk t.d (lnI t.x) (lnI t.y))))
  | _=>gOk t.d&&ngL (zr8 a (z7c t.w (slk t.d (lnN t.x) (lnN t.y))))
section
variable (N:List Nat) (I:List Int)
theorem zug {c:Int}:iN c=true↔c<0:=by
 cases c with
 | ofNat k=>exact⟨(fun h=>nomatch h),fun h=>absurd h (Int.not_lt.mpr (Int.natCast_nonneg k))⟩
 | negSucc k=>exact⟨fun _=>Int.negSucc_lt_zero k,fun _=>rfl⟩
theorem z48 {c:Int} (h:iP c=true):c≤0:=Int.not_lt.mp fun q=>by
 have:iN (-c)=true:=zug.mpr (Int.neg_neg_of_pos q)
 unfold iP at h
 rw[this] at h;cases h
theorem iZ_z {c:Int} (h:iZ c=true):c=0:=by
 obtain⟨h1,h2⟩:=(Bool.and_eq_true _ _).mp h
 refine Int.le_antisymm (z48 h1) (Int.not_lt.mp fun q=>?_)
 rw[zug.mpr q] at h2;cases h2
theorem z8q: ∀(l:List Int) (N:List Nat),l.all iP=true→dot l (N.map Int.ofNat)≤0:=fun l=>by
 induction l with
 | nil=>exact fun _ _=>Int.le_refl 0
 | cons c l ih=>
  intro N h
  obtain⟨h1,h2⟩:=(Bool.and_eq_true _ _).mp h
  cases N with
  | nil=>exact Int.le_refl 0
  | cons x N=>exact Int.add_le_add (Int.mul_nonpos_of_nonpos_of_nonneg (z48 h1) (Int.natCast_nonneg x)) (ih N h2)
theorem tl_z: ∀(l I:List Int),l.all iZ=true→dot l I=0:=fun l=>by
 induction l with
 | nil=>exact fun _ _=>rfl
 | cons c l ih=>
  intro I h
  obtain⟨h1,h2⟩:=(Bool.and_eq_true _ _).mp h
  cases I with
  | nil=>rfl
  | cons x I=>
   show c * x+dot l I=0
   rw[iZ_z h1,Int.zero_mul,Int.zero_add,ih I h2]
theorem z4s {l:LF} (h:ngL l=true):evL N I l<0:=by
 obtain⟨h1,h⟩:=(Bool.and_eq_true _ _).mp h
 obtain⟨h2,h3⟩:=(Bool.and_eq_true _ _).mp h
 unfold evL
 rw[tl_z _ I h3,Int.add_zero]
 exact Int.add_lt_add_of_lt_of_le (zug.mp h1) (z8q _ N h2)
theorem zq4 (d:Nat) (x y:LF):evL N I (slk d x y)=evL N I y+-1 * evL N I x+aS d:=by
 unfold slk
 rw[zhq,zhq,zgf]
 exact congrArg _ (Int.add_zero _)
theorem z0f {a l:LF}{w:Nat} (h:ngL (zr8 a (z7c w l))=true) (q:0≤evL N I a):0≤evL N I l:=Int.not_lt.mp fun z=>by
 have k:=z4s N I h
 unfold z7c at k
 rw[zhq,zgf,zhq] at k
 exact absurd (Int.add_nonneg q (Int.mul_nonneg_of_nonpos_of_nonpos (Int.neg_nonpos_of_nonneg (Int.natCast_nonneg w)) (show evL N I l+(1+(0+0))≤0 from z))) (Int.not_le.mpr k)
theorem z7u: ∀(l:List AT) (a:LF),ckA l a=true→0≤evL N I a→arP N I l:=fun l=>by
 induction l with
 | nil=>exact fun a h q=>absurd (z4s N I h) (Int.not_lt.mpr q)
 | cons t l ih=>
  intro a h q
  obtain⟨d,t,w,x,y⟩:=t
  have up: ∀{b:LF},0≤evL N I b→0≤evL N I (zr8 a (zsn w b)):=fun z=>by
   rw[zhq,zgf];exact Int.add_nonneg q (Int.mul_nonneg (Int.natCast_nonneg _) z)
  match t,h with
  | 0,h=>
   obtain⟨h1,h2⟩:=(Bool.and_eq_true _ _).mp h
   exact fun hP=>ih _ h2 (up (by rw[zq4,z67,z67];exact sI d h1 hP))
  | 1,h=>
   obtain⟨h1,h2⟩:=(Bool.and_eq_true _ _).mp h
   exact fun hP=>ih _ h2 (up (by rw[zq4,z6b,z6b];exact sN d h1 hP))
  | 2,h=>
   obtain⟨h1,h2⟩:=(Bool.and_eq_true _ _).mp h
   have:=z0f N I h2 q
   rw[zq4,z67,z67] at this
   exact gI d h1 this
  | _+3,h=>
   obtain⟨h1,h2⟩:=(Bool.and_eq_true _ _).mp h
   have:=z0f N I h2 q
   rw[zq4,z6b,z6b] at this
   exact gN d h1 this
end
theorem ar (c:Nat) (N:List Nat) (I:List Int) (h:ckA (rdA 99 99 c) (0,[],[])=true):arP N I (rdA 99 99 c):=z7u N I _ _ h (Int.le_refl 0)
abbrev okA (c:Nat):Prop:=ckA (rdA 99 99 c) (0,[],[])=true
theorem zsk (c:Nat) (h:okA c):arP [] [] (rdA 99 99 c):=ar c _ _ h
theorem zsc (c:Nat) {y0:Int} (h:okA c):arP [] [y0] (rdA 99 99 c):=ar c _ _ h
theorem ar02 (c:Nat) {y0 y1:Int} (h:okA c):arP [] [y0,y1] (rdA 99 99 c):=ar c _ _ h
theorem ar03 (c:Nat) {y0 y1 y2:Int} (h:okA c):arP [] [y0,y1,y2] (rdA 99 99 c):=ar c _ _ h
theorem zw (c:Nat) {x0:Nat} (h:okA c):arP [x0] [] (rdA 99 99 c):=ar c _ _ h
theorem zbm (c:Nat) {x0:Nat}{y0:Int} (h:okA c):arP [x0] [y0] (rdA 99 99 c):=ar c _ _ h
theorem z8e (c:Nat) {x0:Nat}{y0 y1:Int} (h:okA c):arP [x0] [y0,y1] (rdA 99 99 c):=ar c _ _ h
theorem z66 (c:Nat) {x0:Nat}{y0 y1 y2:Int} (h:okA c):arP [x0] [y0,y1,y2] (rdA 99 99 c):=ar c _ _ h
theorem zc (c:Nat) {x0 x1:Nat} (h:okA c):arP [x0,x1] [] (rdA 99 99 c):=ar c _ _ h
theorem yR (c:Nat) {x0 x1:Nat}{y0:Int} (h:okA c):arP [x0,x1] [y0] (rdA 99 99 c):=ar c _ _ h
theorem ztn (c:Nat) {x0 x1:Nat}{y0 y1:Int} (h:okA c):arP [x0,x1] [y0,y1] (rdA 99 99 c):=ar c _ _ h
theorem z88 (c:Nat) {x0 x1:Nat}{y0 y1 y2:Int} (h:okA c):arP [x0,x1] [y0,y1,y2] (rdA 99 99 c):=ar c _ _ h
theorem zf (c:Nat) {x0 x1 x2:Nat} (h:okA c):arP [x0,x1,x2] [] (rdA 99 99 c):=ar c _ _ h
theorem za6 (c:Nat) {x0 x1 x2:Nat}{y0:Int} (h:okA c):arP [x0,x1,x2] [y0] (rdA 99 99 c):=ar c _ _ h
theorem z8x (c:Nat) {x0 x1 x2:Nat}{y0 y1:Int} (h:okA c):arP [x0,x1,x2] [y0,y1] (rdA 99 99 c):=ar c _ _ h
theorem zP (c:Nat) {x0 x1 x2 x3:Nat} (h:okA c):arP [x0,x1,x2,x3] [] (rdA 99 99 c):=ar c _ _ h
theorem z65 (c:Nat) {x0 x1 x2 x3:Nat}{y0:Int} (h:okA c):arP [x0,x1,x2,x3] [y0] (rdA 99 99 c):=ar c _ _ h
theorem z82 (c:Nat) {x0 x1 x2 x3:Nat}{y0 y1:Int} (h:okA c):arP [x0,x1,x2,x3] [y0,y1] (rdA 99 99 c):=ar c _ _ h
theorem za9 (c:Nat) {x0 x1 x2 x3 x4:Nat} (h:okA c):arP [x0,x1,x2,x3,x4] [] (rdA 99 99 c):=ar c _ _ h
theorem z9a (c:Nat) {x0 x1 x2 x3 x4:Nat}{y0:Int} (h:okA c):arP [x0,x1,x2,x3,x4] [y0] (rdA 99 99 c):=ar c _ _ h
theorem zk8 (c:Nat) {x0 x1 x2 x3 x4 x5:Nat} (h:okA c):arP [x0,x1,x2,x3,x4,x5] [] (rdA 99 99 c):=ar c _ _ h
theorem z3v (c:Nat) {x0 x1 x2 x3 x4 x5:Nat}{y0:Int} (h:okA c):arP [x0,x1,x2,x3,x4,x5] [y0] (rdA 99 99 c):=ar c _ _ h
theorem zlw (c:Nat) {x0 x1 x2 x3 x4 x5 x6:Nat} (h:okA c):arP [x0,x1,x2,x3,x4,x5,x6] [] (rdA 99 99 c):=ar c _ _ h
theorem zpr (c:Nat) {x0 x1 x2 x3 x4 x5 x6 x7:Nat} (h:okA c):arP [x0,x1,x2,x3,x4,x5,x6,x7] [] (rdA 99 99 c):=ar c _ _ h
theorem z5a (c:Nat) {x0 x1 x2 x3 x4 x5 x6 x7 x8:Nat} (h:okA c):arP [x0,x1,x2,x3,x4,x5,x6,x7,x8] [] (rdA 99 99 c):=ar c _ _ h
theorem zn7 (c:Nat) {x0 x1 x2 x3 x4 x5 x6 x7 x8 x9:Nat} (h:okA c):arP [x0,x1,x2,x3,x4,x5,x6,x7,x8,x9] [] (rdA 99 99 c):=ar c _ _ h
theorem z8h (c:Nat) {x0 x1 x2 x3 x4 x5 x6 x7 x8 x9 x10:Nat}{y0:Int} (h:okA c):arP [x0,x1,x2,x3,x4,x5,x6,x7,x8,x9,x10] [y0] (rdA 99 99 c):=ar c _ _ h
theorem z72 (c:Nat) {x0 x1 x2 x3 x4 x5 x6 x7 x8 x9 x10 x11:Nat}{y0:Int} (h:okA c):arP [x0,x1,x2,x3,x4,x5,x6,x7,x8,x9,x10,x11] [y0] (rdA 99 99 c):=ar c _ _ h
theorem z8m (c:Nat) {x0 x1 x2 x3 x4 x5 x6 x7 x8 x9 x10 x11 x12:Nat} (h:okA c):arP [x0,x1,x2,x3,x4,x5,x6,x7,x8,x9,x10,x11,x12] [] (rdA 99 99 c):=ar c _ _ h
open PySem PyProof.Rows PySem.W
theorem bc {G:Prop} (h: ¬G→False):G:=Classical.byContradiction h
abbrev Tx:=List Char
noncomputable abbrev mkS (x:Tx):Str:=⟨(x.map Char.toNat).toArray⟩
set_option genCtorIdx false in
inductive V where
 | none
 | bool (b:Bool)
 | int (i:Int)
 | str (s:Tx)
 | flt (x:UInt64)
 | tup (vs:List V)
 | rng (a b c:Int)
 | obj (a:Addr)
noncomputable def V.ctorIdx (x:V):Nat:=V.casesOn (motive_1:=fun _=>Nat) x 0 (fun _=>1) (fun _=>2) (fun _=>3) (fun _=>4) (fun _=>5) (fun _ _ _=>6) (fun _=>7)
set_option genCtorIdx false in
inductive O where
 | list (vs:List V)
 | ro (o:Obj) (vs:List V)
 | fn (o:Obj)
 | tab (pos:Pos) (q:Str)
 | inst (C d:Addr)
 | dict (fs:List (Str×V))
noncomputable def O.ctorIdx (x:O):Nat:=O.casesOn (motive:=fun _=>Nat) x (fun _=>0) (fun _ _=>1) (fun _=>2) (fun _ _=>3) (fun _ _=>4) (fun _=>5)
abbrev Mem:=Addr→Option O
structure St where
 loc:List (Option V)
 mem:Mem
set_option genCtorIdx false in
inductive Fl where
 | next | brk | cont
 | ret (v:V)
noncomputable def Fl.ctorIdx (x:Fl):Nat:=Fl.casesOn (motive:=fun _=>Nat) x 0 1 2 (fun _=>3)
mutual
inductive RV (h:Heap):Value→V→Prop
 | none:RV h .none .none
 | bool (b:Bool):RV h (.bool b) (.bool b)
 | int (i:Int) (t:Tok):RV h (.int i t) (.int i)
 | str (x:Tx) (t:Tok):RV h (.str (mkS x) t) (.str x)
 | flt (x:UInt64) (t:Tok):RV h (.float x t) (.flt x)
 | tup {a:Addr} {arr:Array Value} {n:Nat} {xs:List V}:h.get? a=some {cls:= .type "tuple",data:= .seq arr n}→RVs h arr.toList xs→RV h (.ref a) (.tup xs)
 | rng {a:Addr} {x y z:Int} {t u w:Tok}:h.get? a=some {cls:= .type "range",data:= .fields #[.int x t,.int y u,.int z w]}→RV h (.ref a) (.rng x y z)
 | obj (a:Addr):RV h (.ref a) (.obj a)
inductive RVs (h:Heap):List Value→List V→Prop
 | nil:RVs h [] []
 | cons {v:Value} {x:V} {vs:List Value} {xs:List V}:RV h v x→RVs h vs xs→RVs h (v::vs) (x::xs)
end
noncomputable def zjg (q:Str) (o:Obj):Prop:= ∃xs t,o.data= .fields xs∧xs[1]? =some (.str q t)
noncomputable def Imm (o:Obj):Prop:=(o.cls= .type "tuple"∧∃xs n,o.data= .seq xs n)∨(o.cls= .type "range"∧∃xs,o.data= .fields xs∧∃x t,xs[1]? =some (.int x t))∨∃q,zjg q o
noncomputable def TK (h h':Heap):Prop:= ∀b o,h.get? b=some o→Imm o→h'.get? b=some o
theorem TK.refl (h:Heap):TK h h:=fun _ _ e _=>e
theorem TK.trans {h h' h'':Heap} (a:TK h h') (b:TK h' h''):TK h h'':=fun x o e c=>b x o (a x o e c) c
theorem TK.of {h h':Heap} (a: ∀b o,h.get? b=some o→h'.get? b=some o):TK h h':=fun x o e _=>a x o e
theorem RV.both {h:Heap}{M:Value→V→Prop}{N:List Value→List V→Prop} (h1:M .none .none) (h2: ∀b,M (.bool b) (.bool b)) (h3: ∀i t,M (.int i t) (.int i)) (h4: ∀x t,M (.str (mkS x) t) (.str x)) (h5: ∀x t,M (.float x t) (.flt x))
  (h6: ∀(a:Addr) (arr:Array Value) (n:Nat) (xs:List V),h.get? a=some {cls:= .type "tuple",data:= .seq arr n}→N arr.toList xs→M (.ref a) (.tup xs))
  (h7: ∀(a:Addr) (x y z:Int) (t u w:Tok),h.get? a=some {cls:= .type "range",data:= .fields #[.int x t,.int y u,.int z w]}→M (.ref a) (.rng x y z)) (h8: ∀a,M (.ref a) (.obj a)) (n1:N [] [])
  (n2: ∀(v:Value) (x:V) (vs:List Value) (xs:List V),RV h v x→RVs h vs xs→M v x→N vs xs→N (v::vs) (x::xs)):
  (∀{v:Value} {x:V},RV h v x→M v x)∧∀{vs:List Value} {xs:List V},RVs h vs xs→N vs xs:=
 ⟨fun r=>RV.rec (motive_1:=fun v x _=>M v x) (motive_2:=fun v x _=>N v x) h1 h2 h3 h4 h5 (fun e _ q=>h6 _ _ _ _ e q) (fun e=>h7 _ _ _ _ _ _ _ e) h8 n1 (fun a b c d=>n2 _ _ _ _ a b c d) r,
   fun r=>RVs.rec (motive_1:=fun v x _=>M v x) (motive_2:=fun v x _=>N v x) h1 h2 h3 h4 h5 (fun e _ q=>h6 _ _ _ _ e q) (fun e=>h7 _ _ _ _ _ _ _ e) h8 n1 (fun a b c d=>n2 _ _ _ _ a b c d) r⟩
theorem RV.tks {h h':Heap} (k:TK h h'):(∀{v:Value}{x:V},RV h v x→RV h' v x)∧∀{vs:List Value}{xs:List V},RVs h vs xs→RVs h' vs xs:=
 RV.both (M:=RV h') (N:=RVs h') .none .bool .int .str .flt (fun _ _ _ _ e r=> .tup (k _ _ e (.inl ⟨rfl,_,_,rfl⟩)) r) (fun _ _ _ _ _ _ _ e=> .rng (k _ _ e (.inr (.inl ⟨rfl,_,rfl,_,_,rfl⟩)))) .obj .nil (fun _ _ _ _ _ _ a r=> .cons a r)
theorem RV.tk {h h':Heap} (k:TK h h') {v:Value}{x:V} (r:RV h v x):RV h' v x:=(RV.tks k).1 r
theorem RVs.tk {h h':Heap} (k:TK h h') {v:List Value}{x:List V} (r:RVs h v x):RVs h' v x:=(RV.tks k).2 r
theorem RVs.ind {h:Heap}{N:List Value→List V→Prop} (n1:N [] []) (n2: ∀(v:Value) (x:V) (vs:List Value) (xs:List V),RV h v x→RVs h vs xs→N vs xs→N (v::vs) (x::xs)) {vs:List Value}{xs:List V} (r:RVs h vs xs):N vs xs:=
 (RV.both (h:=h) (M:=fun _ _=>True) (N:=N) trivial (fun _=>trivial) (fun _ _=>trivial) (fun _ _=>trivial) (fun _ _=>trivial) (fun _ _ _ _ _ _=>trivial) (fun _ _ _ _ _ _ _ _=>trivial) (fun _=>trivial) n1 (fun v x vs xs a b _ d=>n2 v x vs xs a b d)).2 r
theorem RVs.length {h:Heap}{vs:List Value}{xs:List V} (r:RVs h vs xs):vs.length=xs.length:=RVs.ind (N:=fun vs xs=>vs.length=xs.length) rfl (fun _ _ _ _ _ _ e=>congrArg (·+1) e) r
theorem RVs.append {h:Heap}{vs ws:List Value}{xs ys:List V} (r:RVs h vs xs) (b:RVs h ws ys):RVs h (vs++ws) (xs++ys):=RVs.ind (N:=fun vs xs=>RVs h (vs++ws) (xs++ys)) b (fun _ _ _ _ a _ e=> .cons a e) r
theorem RVs.get {h:Heap}{vs:List Value}{xs:List V} (r:RVs h vs xs): ∀{i:Nat}{x:V},xs[i]? =some x→∃v,vs[i]? =some v∧RV h v x:=by
 refine RVs.ind (N:=fun vs xs=> ∀{i:Nat} {x:V},xs[i]? =some x→∃v,vs[i]? =some v∧RV h v x) ?_ ?_ r
 ·intro i x e;cases i<;>exact(Option.some_ne_none _ e.symm).elim
 ·intro v x vs xs a _ ih i y e
  cases i with
  | zero=>cases e;exact⟨_,rfl,a⟩
  | succ i=>exact ih (i:=i) e
theorem RVs.take {h:Heap}{vs:List Value}{xs:List V} (r:RVs h vs xs): ∀n:Nat,RVs h (vs.take n) (xs.take n):=by
 refine RVs.ind (N:=fun vs xs=> ∀n:Nat,RVs h (vs.take n) (xs.take n)) ?_ ?_ r
 ·intro n;cases n<;>exact .nil
 ·intro v x vs xs a _ ih n
  cases n with
  | zero=>exact .nil
  | succ n=>exact .cons a (ih n)
theorem RVs.drop {h:Heap}{vs:List Value}{xs:List V} (r:RVs h vs xs): ∀n:Nat,RVs h (vs.drop n) (xs.drop n):=by
 refine RVs.ind (N:=fun vs xs=> ∀n:Nat,RVs h (vs.drop n) (xs.drop n)) ?_ ?_ r
 ·intro n;cases n<;>exact .nil
 ·intro v x vs xs a b ih n
  cases n with
  | zero=>exact .cons a b
  | succ n=>exact ih n
theorem RVs.set {h:Heap}{vs:List Value}{xs:List V} (r:RVs h vs xs): ∀(n:Nat) {v:Value}{x:V},RV h v x→RVs h (vs.set n v) (xs.set n x):=by
 refine RVs.ind (N:=fun vs xs=> ∀(n:Nat) {v:Value} {x:V},RV h v x→RVs h (vs.set n v) (xs.set n x)) ?_ ?_ r
 ·intro n _ _ _;cases n<;>exact .nil
 ·intro v x vs xs a b ih n _ _ c
  cases n with
  | zero=>exact .cons c b
  | succ n=>exact .cons a (ih n c)
theorem RVs.one {h:Heap}{v:Value}{x:V} (r:RV h v x):RVs h [v] [x]:= .cons r .nil
section
variable {h:Heap}{cv:Value}{cs:List Value}{M:Value→Prop}{N:List Value→Prop}
@[elab_as_elim] theorem RV.eN (r:RV h cv .none) (k:M .none):M cv:=by cases r;exact k
@[elab_as_elim] theorem RV.eB {b:Bool} (r:RV h cv (.bool b)) (k:M (.bool b)):M cv:=by cases r;exact k
@[elab_as_elim] theorem RV.eI {i:Int} (r:RV h cv (.int i)) (k: ∀t,M (.int i t)):M cv:=by cases r;exact k _
@[elab_as_elim] theorem RV.eS {x:Tx} (r:RV h cv (.str x)) (k: ∀t,M (.str (mkS x) t)):M cv:=by cases r;exact k _
@[elab_as_elim] theorem RV.eT {xs:List V} (r:RV h cv (.tup xs)) (k: ∀a arr n,h.get? a=some {cls:= .type "tuple",data:= .seq arr n}→RVs h arr.toList xs→M (.ref a)):M cv:=by cases r with | tup g q=>exact k _ _ _ g q
@[elab_as_elim] theorem RV.eO {a:Addr} (r:RV h cv (.obj a)) (k:M (.ref a)):M cv:=by cases r;exact k
@[elab_as_elim] theorem RVs.e0 (r:RVs h cs []) (k:N []):N cs:=by cases r;exact k
@[elab_as_elim] theorem RVs.eC {x:V} {xs:List V} (r:RVs h cs (x::xs)) (k: ∀c cs,RV h c x→RVs h cs xs→N (c::cs)):N cs:=by cases r with | cons a b=>exact k _ _ a b
@[elab_as_elim] theorem RVs.e1 {x:V} (r:RVs h cs [x]) (k: ∀c,RV h c x→N [c]):N cs:=by cases r with | cons a b=>cases b;exact k _ a
@[elab_as_elim] theorem RVs.e2 {x y:V} (r:RVs h cs [x,y]) (k: ∀c d,RV h c x→RV h d y→N [c,d]):N cs:=by cases r with | cons a b=>cases b with | cons c d=>cases d;exact k _ _ a c
@[elab_as_elim] theorem RVs.e3 {x y z:V} (r:RVs h cs [x,y,z]) (k: ∀c d e,RV h c x→RV h d y→RV h e z→N [c,d,e]):N cs:=by cases r with | cons a b=>cases b with | cons c d=>cases d with | cons e f=>cases f;exact k _ _ _ a c e
end
noncomputable def zd3 (h:Heap):List DictEntry→List (Str×V)→Prop
 | [],[]=>True
 | e::es,f::fs=>(∃t,e.key= .str f.1 t)∧RV h e.val f.2∧zd3 h es fs
 | _,_=>False
theorem zd3.tk {h h':Heap} (k:TK h h'): ∀{es:List DictEntry}{fs:List (Str×V)},zd3 h es fs→zd3 h' es fs
 | [],[],_=>trivial
 | _::_,_::_,⟨a,b,c⟩=>⟨a,b.tk k,zd3.tk k c⟩
 | [],_::_,x=>x.elim
 | _::_,[],x=>x.elim
inductive RO (h:Heap) (a:Addr):O→Prop
 | list {arr:Array Value} {n:Nat} {vs:List V}:h.get? a=some {cls:= .type "list",data:= .seq arr n}→RVs h arr.toList vs→RO h a (.list vs)
 | ro {arr:Array Value} {n:Nat} {o:Obj} {vs:List V}:h.get? a=some o→o.cls= .type "list"→o.data= .seq arr n→RVs h arr.toList vs→RO h a (.ro o vs)
 | fn {o oc:Obj} {fd:FuncData} {c:Addr}:h.get? a=some o→o.data= .func fd→fd.code= .ref c→h.get? c=some oc→zjg fd.qualname oc→RO h a (.fn o)
 | tab0 {pos:Pos} {q:Str}:h.get? a=some (tabObj #[])→RO h a (.tab pos q)
 | tab1 {pos:Pos} {q:Str} {oc:Obj} {c:Addr}:h.get? a=some (tabObj #[rawInt pos.line,rawInt pos.col,.ref c])→h.get? c=some oc→zjg q oc→RO h a (.tab pos q)
 | inst {C d:Addr}:h.get? a=some (instObj C d)→RO h a (.inst C d)
 | dict {es:List DictEntry} {n:Nat} {fs:List (Str×V)}:h.get? a=some (dictOf es n)→zd3 h es fs→RO h a (.dict fs)
theorem RO.l {h:Heap}{a:Addr}{vs:List V} (r:RO h a (.list vs)): ∃arr n,h.get? a=some {cls:= .type "list",data:= .seq arr n}∧RVs h arr.toList vs∧arr.size=vs.length:=by
 cases r with
 | list g q=>exact⟨_,_,g,q,q.length⟩
theorem RO.obj {h:Heap}{a:Addr}{o:O} (r:RO h a o): ∃x,h.get? a=some x∧¬Imm x:=by
 cases r with
 | list e _=>exact⟨_,e,by simp[Imm,zjg]⟩
 | ro e c d _=>exact⟨_,e,by rw[Imm,c];simp[zjg,d]⟩
 | fn e d=>exact⟨_,e,by rintro (⟨_,_,_,q⟩ | ⟨_,_,q,_⟩ | ⟨_,_,_,q,_⟩)<;>rw[d] at q<;>cases q⟩
 | tab0 e=>exact⟨_,e,by simp[Imm,zjg]⟩
 | tab1 e=>exact⟨_,e,by simp[Imm,zjg,rawInt]⟩
 | inst e=>exact⟨_,e,by simp[Imm,zjg]⟩
 | dict e _=>exact⟨_,e,by simp[Imm,zjg]⟩
theorem RO.lt {h:Heap}{a:Addr}{o:O} (r:RO h a o):a<h.objs.size:=let ⟨_,e,_⟩:=r.obj;Heap.lt_size e
theorem RO.keep {h h':Heap}{a:Addr}{o:O} (r:RO h a o) (k:TK h h') (e: ∀x,h.get? a=some x→h'.get? a=some x):RO h' a o:=by
 cases r with
 | list g s=>exact .list (e _ g) (s.tk k)
 | ro g c d s=>exact .ro (e _ g) c d (s.tk k)
 | fn g d f x i=>exact .fn (e _ g) d f (k _ _ x (.inr (.inr ⟨_,i⟩))) i
 | tab0 g=>exact .tab0 (e _ g)
 | tab1 g x i=>exact .tab1 (e _ g) (k _ _ x (.inr (.inr ⟨_,i⟩))) i
 | inst g=>exact .inst (e _ g)
 | dict g s=>exact .dict (e _ g) (s.tk k)
structure GS where
 prog:Program
 w:World
 s0:Shared
 base:Heap
 keep:Addr→Option Obj
 mg:Str→Option Value
 mb:Str→Option Value
 K:Frag
 fns:List String
 meths:List String
structure GS.ok (G:GS):Prop where
 g:G.base.Ns mainGlobals G.mg
 b:G.base.Ns builtinsNs G.mb
 lim:G.base.NoLimit
 k:G.K.In G.base
set_option genCtorIdx false in
inductive VK where
 | loc
 | own (c:Addr)
 | ref (c:Addr)
noncomputable def VK.ctorIdx (x:VK):Nat:=VK.casesOn (motive:=fun _=>Nat) x 0 (fun _=>1) (fun _=>2)
structure FE where
 env:Env
 vars:List (Str×VK)
structure FE.ok (Γ:FE):Prop where
 fn:Γ.env.scope.kind= .function
 glb:Γ.env.globals=mainGlobals
 bui:Γ.env.builtins=builtinsNs
 loc: ∀(i:Nat) x,Γ.vars[i]? =some (x,.loc)→Γ.env.kindOf x=some .local
 own: ∀(i:Nat) x c,Γ.vars[i]? =some (x,.own c)→Γ.env.kindOf x=some .cell∧Γ.env.cells.lookup x=some c∧c≠Γ.env.locals
 ref: ∀(i:Nat) x c,Γ.vars[i]? =some (x,.ref c)→(Γ.env.kindOf x=some .cell∨Γ.env.kindOf x=some .free)∧Γ.env.cells.lookup x=some c
 names: ∀(i j:Nat) x k k',Γ.vars[i]? =some (x,k)→Γ.vars[j]? =some (x,k')→i=j
 cells: ∀(i j:Nat) x y c,Γ.vars[i]? =some (x,.own c)→Γ.vars[j]? =some (y,.own c)→i=j
 dbg: ∀(i:Nat) x k,Γ.vars[i]? =some (x,k)→(x==("__debug__":Str))=false∧(x==("__classdict__":Str))=false
abbrev Frz:=Addr→Option Obj
structure Rep (G:GS) (Γ:FE) (frz:Frz) (σ:St) (s:Shared):Prop where
 same: ∃h tk,s={G.s0 with heap:=h,toks:=tk}
 hbase: ∀b o,G.base.get? b=some o→frz b=some o
 hkeep: ∀b o,G.keep b=some o→frz b=some o
 hfrz: ∀b o,frz b=some o→s.heap.get? b=some o
 hmem: ∀a o,σ.mem a=some o→RO s.heap a o
 hmemF: ∀a o,σ.mem a=some o→frz a=none
 hab:G.base.objs.size≤Γ.env.locals
 hlf:frz Γ.env.locals=none
 hlm:σ.mem Γ.env.locals=none
 hns: ∃m,s.heap.Ns Γ.env.locals m∧∀(i:Nat) x v,Γ.vars[i]? =some (x,.loc)→σ.loc[i]? =some (some v)→∃cv,m x=some cv∧RV s.heap cv v
 hown: ∀(i:Nat) x c,Γ.vars[i]? =some (x,.own c)→frz c=none∧σ.mem c=none∧∃o ov,s.heap.get? c=some o∧o.data= .cell ov∧∀v,σ.loc[i]? =some (some v)→∃cv,ov=some cv∧RV s.heap cv v
 href: ∀(i:Nat) x c,Γ.vars[i]? =some (x,.ref c)→∃o ov,frz c=some o∧o.data= .cell ov∧∀v,σ.loc[i]? =some (some v)→∃cv,ov=some cv∧RV s.heap cv v
structure Rp (G:GS) (frz:Frz) (m:Mem) (s:Shared):Prop where
 same: ∃h tk,s={G.s0 with heap:=h,toks:=tk}
 hbase: ∀b o,G.base.get? b=some o→frz b=some o
 hkeep: ∀b o,G.keep b=some o→frz b=some o
 hfrz: ∀b o,frz b=some o→s.heap.get? b=some o
 hmem: ∀a o,m a=some o→RO s.heap a o
 hmemF: ∀a o,m a=some o→frz a=none
 hsz:G.base.objs.size≤s.heap.objs.size
noncomputable def upd (m:Mem) (a:Addr) (o:O):Mem:=fun b=>if b=a then some o else m b
theorem ups (m:Mem) (a:Addr) (o:O):upd m a o a=some o:=by simp[upd]
theorem upn (m:Mem) {a b:Addr} (o:O) (h:b≠a):upd m a o b=m b:=by simp[upd,h]
theorem zu2 (m:Mem) (a:Addr) (o o':O):upd (upd m a o) a o'=upd m a o':=by
 funext b;by_cases h:b=a<;>simp[upd,h]
theorem z6q {m:Mem}{a:Addr}{o:O} (h:m a=some o):upd m a o=m:=by
 funext b;by_cases e:b=a
 ·subst e;rw[ups,h]
 ·simp[upd,e]
section
variable {G:GS}{Γ:FE}{frz:Frz}{σ:St}{s:Shared}
structure Kp (L:Addr) (h h':Heap):Prop where
 all: ∀b o,b≠L→h.get? b=some o→h'.get? b=some o
 ns: ∀m,h.Ns L m→h'.Ns L m
theorem zer {h:Heap}{L:Addr}{m:Str→Option Value} (n:h.Ns L m) {o:Obj} (e:h.get? L=some o): ¬Imm o:=by
 obtain⟨o',es,ep,e',d,_⟩:=n
 rw[e] at e';cases e'
 rintro (⟨_,_,_,q⟩ | ⟨_,_,q,_⟩ | ⟨_,_,_,q,_⟩)<;>rw[d] at q<;>cases q
theorem Rep.kp_tk (r:Rep G Γ frz σ s) {h':Heap} (k:Kp Γ.env.locals s.heap h'):TK s.heap h':=fun b o e i=>by
 by_cases hb:b=Γ.env.locals
 ·subst hb
  obtain⟨m,n,_⟩:=r.hns
  exact absurd i (zer n e)
 ·exact k.all b o hb e
theorem Rep.mem_ne (r:Rep G Γ frz σ s) {a:Addr}{o:O} (e:σ.mem a=some o):a≠Γ.env.locals:=fun q=>by subst q;rw[r.hlm] at e;exact(Option.some_ne_none _ e.symm).elim
theorem Rep.frz_ne (r:Rep G Γ frz σ s) {a:Addr}{o:Obj} (e:frz a=some o):a≠Γ.env.locals:=fun q=>by subst q;rw[r.hlf] at e;exact(Option.some_ne_none _ e.symm).elim
theorem Rep.growL (ok:Γ.ok) (r:Rep G Γ frz σ s) {h':Heap}{tk:Nat} (k:Kp Γ.env.locals s.heap h'):Rep G Γ frz σ {s with heap:=h',toks:=tk} where
 same:=let ⟨_,_,e⟩:=r.same;⟨h',tk,by rw[e]⟩
 hbase:=r.hbase
 hkeep:=r.hkeep
 hfrz:=fun b o e=>k.all b o (r.frz_ne e) (r.hfrz b o e)
 hmem:=fun a o e=>(r.hmem a o e).keep (r.kp_tk k) fun x=>k.all a x (r.mem_ne e)
 hmemF:=r.hmemF
 hab:=r.hab
 hlf:=r.hlf
 hlm:=r.hlm
 hns:=let ⟨m,n,f⟩:=r.hns;⟨m,k.ns m n,fun i x v a b=>let ⟨cv,e,q⟩:=f i x v a b;⟨cv,e,q.tk (r.kp_tk k)⟩⟩
 hown:=fun i x c e=>let ⟨a,b,o,ov,g,d,f⟩:=r.hown i x c e;⟨a,b,o,ov,k.all _ _ (ok.own i x c e).2.2 g,d,fun v q=>let ⟨cv,e1,e2⟩:=f v q;⟨cv,e1,e2.tk (r.kp_tk k)⟩⟩
 href:=fun i x c a=>let ⟨o,ov,e,d,f⟩:=r.href i x c a;⟨o,ov,e,d,fun v b=>let ⟨cv,e1,e2⟩:=f v b;⟨cv,e1,e2.tk (r.kp_tk k)⟩⟩
theorem Rep.grow (r:Rep G Γ frz σ s) {h':Heap}{tk:Nat} (k: ∀b o,s.heap.get? b=some o→h'.get? b=some o):Rep G Γ frz σ {s with heap:=h',toks:=tk} where
 same:=let ⟨_,_,e⟩:=r.same;⟨h',tk,by rw[e]⟩
 hbase:=r.hbase
 hkeep:=r.hkeep
 hfrz:=fun b o e=>k b o (r.hfrz b o e)
 hmem:=fun a o e=>(r.hmem a o e).keep (.of k) (k a)
 hmemF:=r.hmemF
 hab:=r.hab
 hlf:=r.hlf
 hlm:=r.hlm
 hns:=let ⟨m,n,f⟩:=r.hns;⟨m,n.keeps k,fun i x v a b=>let ⟨cv,e,q⟩:=f i x v a b;⟨cv,e,q.tk (.of k)⟩⟩
 hown:=fun i x c e=>let ⟨a,b,o,ov,g,d,f⟩:=r.hown i x c e;⟨a,b,o,ov,k _ _ g,d,fun v q=>let ⟨cv,e1,e2⟩:=f v q;⟨cv,e1,e2.tk (.of k)⟩⟩
 href:=fun i x c a=>let ⟨o,ov,e,d,f⟩:=r.href i x c a;⟨o,ov,e,d,fun v b=>let ⟨cv,e1,e2⟩:=f v b;⟨cv,e1,e2.tk (.of k)⟩⟩
theorem Rep.toks (r:Rep G Γ frz σ s) (tk:Nat):Rep G Γ frz σ {s with toks:=tk}:=r.grow (h':=s.heap) fun _ _ e=>e
theorem Rep.changeL (ok:Γ.ok) (r:Rep G Γ frz σ s) {a:Addr}{o₀ o:O} (ha:σ.mem a=some o₀) {h':Heap}{tk:Nat}
  (k: ∀b o,b≠a→b≠Γ.env.locals→s.heap.get? b=some o→h'.get? b=some o) (kn: ∀m,s.heap.Ns Γ.env.locals m→h'.Ns Γ.env.locals m)
  (ro:TK s.heap h'→RO h' a o):Rep G Γ frz {σ with mem:=upd σ.mem a o} {s with heap:=h',toks:=tk}∧TK s.heap h':=by
 have tkk:TK s.heap h':=fun b x e c=>by
  by_cases hb:b=a
  ·subst hb
   refine bc fun z9=>?_
   obtain⟨y,ey,hy⟩:=(r.hmem _ _ ha).obj
   refine z9 ?_
   rw[e] at ey;cases ey;exact absurd c hy
  ·by_cases hl:b=Γ.env.locals
   ·subst hl
    refine bc fun z9=>?_
    obtain⟨m,n,_⟩:=r.hns
    refine z9 ?_
    exact absurd c (zer n e)
   ·exact k b x hb hl e
 have nf: ∀b o,frz b=some o→b≠a:=fun b o e q=>by subst q;rw[r.hmemF _ _ ha] at e;exact(Option.some_ne_none _ e.symm).elim
 refine⟨⟨let ⟨_,_,e⟩:=r.same;⟨h',tk,by rw[e]⟩,r.hbase,r.hkeep,fun b o e=>k b o (nf b o e) (r.frz_ne e) (r.hfrz b o e),?_,?_,r.hab,r.hlf,?_,?_,?_,?_⟩,tkk⟩
 ·intro b x e
  replace e:upd _ _ _ _=_:=e
  by_cases hb:b=a
  ·subst hb;rw[ups] at e;cases e;exact ro tkk
  ·rw[upn _ _ hb] at e;exact(r.hmem b x e).keep tkk fun y=>k b y hb (r.mem_ne e)
 ·intro b x e
  replace e:upd _ _ _ _=_:=e
  by_cases hb:b=a
  ·subst hb;exact r.hmemF _ _ ha
  ·rw[upn _ _ hb] at e;exact r.hmemF b x e
 ·show upd _ _ _ _=none
  rw[upn];exact r.hlm
  intro q;rw[←q,r.hlm] at ha;exact(Option.some_ne_none _ ha.symm).elim
 ·refine bc fun z9=>?_
  obtain⟨m,n,f⟩:=r.hns
  refine z9 ?_
  refine⟨m,kn m n,fun i x v p q=>?_⟩
  refine bc fun z9=>?_
  obtain⟨cv,e1,e2⟩:=f i x v p q
  refine z9 ?_
  exact⟨cv,e1,e2.tk tkk⟩
 ·intro i x c e
  refine bc fun z9=>?_
  obtain⟨p,q,o,ov,g,d,f⟩:=r.hown i x c e
  refine z9 ?_
  have hc:c≠a:=by intro z;rw[z,ha] at q;exact(Option.some_ne_none _ q).elim
  refine⟨p,?_,o,ov,k _ _ hc (ok.own i x c e).2.2 g,d,fun v z=>?_⟩
  ·show upd _ _ _ _=none
   rw[upn _ _ hc];exact q
  ·obtain⟨cv,e1,e2⟩:=f v z;exact⟨cv,e1,e2.tk tkk⟩
 ·intro i x c p
  refine bc fun z9=>?_
  obtain⟨o,ov,e1,d,f⟩:=r.href i x c p
  refine z9 ?_
  exact⟨o,ov,e1,d,fun v b=>let ⟨cv,e1,e2⟩:=f v b;⟨cv,e1,e2.tk tkk⟩⟩
theorem Rep.change (ok:Γ.ok) (r:Rep G Γ frz σ s) {a:Addr}{o₀ o:O} (ha:σ.mem a=some o₀) {h':Heap}{tk:Nat} (k: ∀b o,b≠a→s.heap.get? b=some o→h'.get? b=some o)
  (ro:TK s.heap h'→RO h' a o):Rep G Γ frz {σ with mem:=upd σ.mem a o} {s with heap:=h',toks:=tk}∧TK s.heap h':=
 r.changeL ok ha (fun b o hb _=>k b o hb) (fun m n=>n.extBut (b:=a) (fun b o hb e=>k b o hb e) (Ne.symm (r.mem_ne ha))) ro
theorem Rep.none_of_ge (r:Rep G Γ frz σ s) {a:Addr} (h:s.heap.objs.size≤a):σ.mem a=none∧frz a=none:=by
 constructor
 ·cases e:σ.mem a with
  | none=>rfl
  | some o=>exact absurd (r.hmem _ _ e).lt (Nat.not_lt.mpr h)
 ·cases e:frz a with
  | none=>rfl
  | some o=>exact absurd (Heap.lt_size (r.hfrz _ _ e)) (Nat.not_lt.mpr h)
theorem Rep.rp (r:Rep G Γ frz σ s):Rp G frz σ.mem s:=
 ⟨r.same,r.hbase,r.hkeep,r.hfrz,r.hmem,r.hmemF,Nat.le_of_lt (Nat.lt_of_le_of_lt r.hab (let ⟨_,n,_⟩:=r.hns;n.lt))⟩
theorem Rep.lt_locals (r:Rep G Γ frz σ s):Γ.env.locals<s.heap.objs.size:=let ⟨_,n,_⟩:=r.hns;n.lt
theorem Rep.join (r:Rep G Γ frz σ s) {a:Addr}{o:O} (hm:σ.mem a=none) (hf:frz a=none) (hl:a≠Γ.env.locals) (hc: ∀(i:Nat) x c,Γ.vars[i]? =some (x,.own c)→c≠a) (ro:RO s.heap a o):
  Rep G Γ frz {σ with mem:=upd σ.mem a o} s:=by
 refine⟨r.same,r.hbase,r.hkeep,r.hfrz,?_,?_,r.hab,r.hlf,?_,r.hns,?_,r.href⟩
 ·intro b x e
  replace e:upd _ _ _ _=_:=e
  by_cases hb:b=a
  ·subst hb;rw[ups] at e;cases e;exact ro
  ·rw[upn _ _ hb] at e;exact r.hmem b x e
 ·intro b x e
  replace e:upd _ _ _ _=_:=e
  by_cases hb:b=a
  ·subst hb;exact hf
  ·rw[upn _ _ hb] at e;exact r.hmemF b x e
 ·show upd _ _ _ _=none
  rw[upn _ _ (Ne.symm hl)];exact r.hlm
 ·intro i x c e
  refine bc fun z9=>?_
  obtain⟨p,q,o,ov,g,d,f⟩:=r.hown i x c e
  refine z9 ?_
  refine⟨p,?_,o,ov,g,d,f⟩
  show upd _ _ _ _=none
  rw[upn _ _ (hc i x c e)];exact q
theorem Rep.fresh (r:Rep G Γ frz σ s) {a:Addr}{o:O} (ha:s.heap.objs.size≤a) {h':Heap}{tk:Nat} (k: ∀b o,s.heap.get? b=some o→h'.get? b=some o)
  (ro:RO h' a o):Rep G Γ frz {σ with mem:=upd σ.mem a o} {s with heap:=h',toks:=tk}:=by
 have r':=r.grow (tk:=tk) k
 refine r'.join (r.none_of_ge ha).1 (r.none_of_ge ha).2 (Ne.symm (Nat.ne_of_lt (Nat.lt_of_lt_of_le r.lt_locals ha))) (fun i x c e=>?_) ro
 obtain⟨_,_,o',ov',g',_,_⟩:=r.hown i x c e
 exact Nat.ne_of_lt (Nat.lt_of_lt_of_le (Heap.lt_size g') ha)
structure Aside (G:GS) (Γ:FE) (frz:Frz) (σ:St) (a:Addr):Prop where
 m:σ.mem a=none
 f:frz a=none
 l:a≠Γ.env.locals
 c: ∀(i:Nat) x c,Γ.vars[i]? =some (x,.own c)→c≠a
 r: ∀(i:Nat) x c,Γ.vars[i]? =some (x,.ref c)→c≠a
theorem Rep.asideNew (r:Rep G Γ frz σ s) {a:Addr} (h:s.heap.objs.size≤a):Aside G Γ frz σ a where
 m:=(r.none_of_ge h).1
 f:=(r.none_of_ge h).2
 l:=Ne.symm (Nat.ne_of_lt (Nat.lt_of_lt_of_le r.lt_locals h))
 c:=fun i x c e=>let ⟨_,_,_,_,g,_⟩:=r.hown i x c e;Nat.ne_of_lt (Nat.lt_of_lt_of_le (Heap.lt_size g) h)
 r:=fun i x c e=>let ⟨_,_,g,_⟩:=r.href i x c e;Nat.ne_of_lt (Nat.lt_of_lt_of_le (Heap.lt_size (r.hfrz _ _ g)) h)
theorem Rep.asideTk (r:Rep G Γ frz σ s) {a:Addr}{o:Obj} (_d:Aside G Γ frz σ a) (ho:s.heap.get? a=some o) (ni: ¬Imm o) {h':Heap} (k: ∀b o,b≠a→s.heap.get? b=some o→h'.get? b=some o):TK s.heap h':=fun b x e c=>by
 by_cases hb:b=a
 ·subst hb;rw[ho] at e;cases e;exact absurd c ni
 ·exact k b x hb e
theorem Rep.aside (r:Rep G Γ frz σ s) {a:Addr}{o:Obj} (d:Aside G Γ frz σ a) (ho:s.heap.get? a=some o) (ni: ¬Imm o) {h':Heap}{tk:Nat} (k: ∀b o,b≠a→s.heap.get? b=some o→h'.get? b=some o):
  Rep G Γ frz σ {s with heap:=h',toks:=tk}∧TK s.heap h':=by
 have t:=r.asideTk d ho ni k
 have nf: ∀b o,frz b=some o→b≠a:=fun b o e q=>by subst q;rw[d.f] at e;exact(Option.some_ne_none _ e.symm).elim
 have nm: ∀b o,σ.mem b=some o→b≠a:=fun b o e q=>by subst q;rw[d.m] at e;exact(Option.some_ne_none _ e.symm).elim
 refine⟨⟨let ⟨_,_,e⟩:=r.same;⟨h',tk,by rw[e]⟩,r.hbase,r.hkeep,fun b o e=>k b o (nf b o e) (r.hfrz b o e),fun b x e=>(r.hmem b x e).keep t fun y ey=>k b y (nm b x e) ey,r.hmemF,r.hab,r.hlf,r.hlm,?_,?_,?_⟩,t⟩
 ·refine bc fun z9=>?_
  obtain⟨m,n,f⟩:=r.hns
  refine z9 ?_
  exact⟨m,n.extBut (b:=a) (fun b o hb e=>k b o hb e) (Ne.symm d.l),fun i x v p q=>let ⟨cv,e1,e2⟩:=f i x v p q;⟨cv,e1,e2.tk t⟩⟩
 ·intro i x c e
  refine bc fun z9=>?_
  obtain⟨p,q,o,ov,g,dd,f⟩:=r.hown i x c e
  refine z9 ?_
  exact⟨p,q,o,ov,k _ _ (d.c i x c e) g,dd,fun v z=>let ⟨cv,e1,e2⟩:=f v z;⟨cv,e1,e2.tk t⟩⟩
 ·intro i x c e
  refine bc fun z9=>?_
  obtain⟨o,ov,g,dd,f⟩:=r.href i x c e
  refine z9 ?_
  exact⟨o,ov,g,dd,fun v z=>let ⟨cv,e1,e2⟩:=f v z;⟨cv,e1,e2.tk t⟩⟩
theorem Rep.fr (r:Rep G Γ frz σ s) {m:Str→Option Value} (n:s.heap.Ns Γ.env.locals m):Fr G.base Γ.env.locals s.heap m:=
 ⟨n,fun b o e=>r.hfrz b o (r.hbase b o e),r.hab⟩
noncomputable def zjr (G:GS) (L:Addr) (h:Heap) (D:List Addr):List (Addr×Obj):=
 (List.range h.objs.size).filterMap fun b=>if b=L∨b∈D∨(G.base.get? b).isSome then none else(h.get? b).map (b,·)
theorem zet {L:Addr}{h:Heap}{D:List Addr}{b:Addr}{o:Obj}:(b,o)∈zjr G L h D↔b≠L∧b∉D∧G.base.get? b=none∧h.get? b=some o:=by
 unfold zjr
 rw[List.mem_filterMap]
 constructor
 ·rintro ⟨c,_,e⟩
  split at e
  ·exact(Option.some_ne_none _ e.symm).elim
  ·rename_i q
   rw[Option.map_eq_some_iff] at e
   obtain⟨x,e1,e2⟩:=e
   cases e2
   simp only[not_or,Option.not_isSome_iff_eq_none] at q
   exact⟨q.1,q.2.1,q.2.2,e1⟩
 ·rintro ⟨h1,h2,h3,h4⟩
  refine⟨b,List.mem_range.mpr (Heap.lt_size h4),?_⟩
  rw[if_neg (by simp[h1,h2,h3]),h4];rfl
theorem Rep.rest (_r:Rep G Γ frz σ s) (D:List Addr):News G.base Γ.env.locals s.heap (zjr G Γ.env.locals s.heap D):=fun p hp=>by
 obtain⟨b,o⟩:=p
 obtain⟨h1,h2,h3,h4⟩:=zet.mp hp
 exact⟨h4,h1,h3⟩
theorem Rep.keep_of_rest (r:Rep G Γ frz σ s) {D:List Addr}{h':Heap}{m:Str→Option Value} (F:Fr G.base Γ.env.locals h' m) (N:News G.base Γ.env.locals h' (zjr G Γ.env.locals s.heap D)):
  ∀b o,b∉D→b≠Γ.env.locals→s.heap.get? b=some o→h'.get? b=some o:=fun b o hd hl e=>by
 cases q:G.base.get? b with
 | some o'=>
  have:=r.hfrz b o' (r.hbase b o' q)
  rw[e] at this;cases this
  exact F.keep b o q
 | none=>exact(N (b,o) (zet.mpr ⟨hl,hd,q,e⟩)).1
theorem Rep.freeze (r:Rep G Γ frz σ s) {frz':Frz} (h1: ∀b o,frz b=some o→frz' b=some o) (h2: ∀b o,frz' b=some o→s.heap.get? b=some o)
  (h3: ∀a o,σ.mem a=some o→frz' a=none) (h4:frz' Γ.env.locals=none) (h5: ∀(i:Nat) x c,Γ.vars[i]? =some (x,.own c)→frz' c=none):Rep G Γ frz' σ s:=
 ⟨r.same,fun b o e=>h1 b o (r.hbase b o e),fun b o e=>h1 b o (r.hkeep b o e),h2,r.hmem,h3,r.hab,h4,r.hlm,r.hns,fun i x c e=>⟨h5 i x c e,(r.hown i x c e).2⟩,fun i x c a=>let ⟨o,ov,e,d,q⟩:=r.href i x c a;⟨o,ov,h1 _ _ e,d,q⟩⟩
noncomputable def z0 (frz:Frz) (a:Addr) (o:Obj):Frz:=fun b=>if b=a then some o else frz b
theorem Rep.freezeOne (r:Rep G Γ frz σ s) {a:Addr}{o:Obj} (ho:s.heap.get? a=some o) (hf: ∀o',frz a=some o'→o'=o) (hm:σ.mem a=none) (hl:a≠Γ.env.locals) (hc: ∀(i:Nat) x c,Γ.vars[i]? =some (x,.own c)→c≠a):
  Rep G Γ (z0 frz a o) σ s:=by
 refine r.freeze ?_ ?_ ?_ ?_ ?_
 ·intro b x e;unfold z0;split
  ·rename_i q;subst q;rw[hf x e]
  ·exact e
 ·intro b x e;unfold z0 at e;split at e
  ·rename_i q;subst q;cases e;exact ho
  ·exact r.hfrz b x e
 ·intro b x e;unfold z0;split
  ·rename_i q;subst q;rw[hm] at e;exact(Option.some_ne_none _ e.symm).elim
  ·exact r.hmemF b x e
 ·unfold z0;rw[if_neg (Ne.symm hl)];exact r.hlf
 ·intro i x c e;unfold z0;rw[if_neg (hc i x c e)];exact(r.hown i x c e).1
theorem Rep.thaw (r:Rep G Γ frz σ s) {frz':Frz} (h0: ∀b o,G.base.get? b=some o→frz' b=some o) (h0': ∀b o,G.keep b=some o→frz' b=some o) (h1: ∀b o,frz' b=some o→frz b=some o) (h2: ∀(i:Nat) x c o,Γ.vars[i]? =some (x,.ref c)→frz c=some o→frz' c=some o):Rep G Γ frz' σ s:=by
 have nn: ∀a,frz a=none→frz' a=none:=fun a e=>by
  cases q:frz' a with
  | none=>rfl
  | some o=>rw[h1 a o q] at e;cases e
 exact⟨r.same,h0,h0',fun b o e=>r.hfrz b o (h1 b o e),r.hmem,fun a o e=>nn _ (r.hmemF a o e),r.hab,nn _ r.hlf,r.hlm,r.hns,fun i x c e=>⟨nn _ (r.hown i x c e).1,(r.hown i x c e).2⟩,
  fun i x c a=>let ⟨o,ov,e,d,q⟩:=r.href i x c a;⟨o,ov,h2 i x c _ a e,d,q⟩⟩
theorem Rep.asideIn (r:Rep G Γ frz σ s) {a:Addr}{o:Obj} (d:Aside G Γ frz σ a) (ho:s.heap.get? a=some o):Rep G Γ (z0 frz a o) σ s:=
 r.freezeOne ho (fun o' e=>by rw[d.f] at e;exact(Option.some_ne_none _ e.symm).elim) d.m d.l d.c
theorem Rep.asideOut {σ₀:St}{s₀:Shared} (r₀:Rep G Γ frz σ₀ s₀) {a:Addr}{o:Obj} (d:Aside G Γ frz σ₀ a) (r:Rep G Γ (z0 frz a o) σ s):Rep G Γ frz σ s∧Aside G Γ frz σ a∧s.heap.get? a=some o:=by
 have e:z0 frz a o a=some o:=by simp[z0]
 have hm:σ.mem a=none:=by
  cases q:σ.mem a with
  | none=>rfl
  | some x=>have:=r.hmemF a x q;rw[e] at this;cases this
 refine⟨r.thaw r₀.hbase r₀.hkeep (fun b x q=>?_) (fun i x c x' p q=>?_),⟨hm,d.f,d.l,d.c,d.r⟩,r.hfrz _ _ e⟩
 ·unfold z0;rw[if_neg (fun z=>by subst z;rw[d.f] at q;cases q)];exact q
 ·unfold z0 at q;rw[if_neg (d.r i x c p)] at q;exact q
end
abbrev NoE:Value→Shared→Prop:=fun _ _=>False
noncomputable def PV (G:GS) (Γ:FE) (frz:Frz) (s:Shared) (Q:V→St→Prop):Value→Shared→Prop:=
 fun cv s'=> ∃v σ',RV s'.heap cv v∧Rep G Γ frz σ' s'∧TK s.heap s'.heap∧Q v σ'
noncomputable def PVs (G:GS) (Γ:FE) (frz:Frz) (s:Shared) (Q:List V→St→Prop):List Value→Shared→Prop:=
 fun cv s'=> ∃v σ',RVs s'.heap cv v∧Rep G Γ frz σ' s'∧TK s.heap s'.heap∧Q v σ'
noncomputable def PB (G:GS) (Γ:FE) (frz:Frz) (s:Shared) (Q:Bool→St→Prop):Bool→Shared→Prop:=
 fun b s'=> ∃σ',Rep G Γ frz σ' s'∧TK s.heap s'.heap∧Q b σ'
noncomputable def PU (G:GS) (Γ:FE) (frz:Frz) (s:Shared) (Q:St→Prop):Unit→Shared→Prop:=
 fun _ s'=> ∃σ',Rep G Γ frz σ' s'∧TK s.heap s'.heap∧Q σ'
inductive RF (h:Heap):Flow→Fl→Prop
 | next:RF h .next .next
 | brk:RF h .brk .brk
 | cont:RF h .cont .cont
 | ret {v:Value} {x:V}:RV h v x→RF h (.ret v) (.ret x)
noncomputable def PF (G:GS) (Γ:FE) (frz:Frz) (s:Shared) (Q:Fl→St→Prop):Flow→Shared→Prop:=
 fun f s'=> ∃fl σ',RF s'.heap f fl∧Rep G Γ frz σ' s'∧TK s.heap s'.heap∧Q fl σ'
noncomputable def W (G:GS) (A:Around) (Γ:FE) (t:Sem Value) (Q:V→St→Prop) (σ:St):Prop:=
 ∀frz s,Rep G Γ frz σ s→wpAny (model G.prog G.w) A t (PV G Γ frz s Q) NoE s
noncomputable def Ws (G:GS) (A:Around) (Γ:FE) (t:Sem (List Value)) (Q:List V→St→Prop) (σ:St):Prop:=
 ∀frz s,Rep G Γ frz σ s→wpAny (model G.prog G.w) A t (PVs G Γ frz s Q) NoE s
noncomputable def WB (G:GS) (A:Around) (Γ:FE) (t:Sem Bool) (Q:Bool→St→Prop) (σ:St):Prop:=
 ∀frz s,Rep G Γ frz σ s→wpAny (model G.prog G.w) A t (PB G Γ frz s Q) NoE s
noncomputable def WF (G:GS) (A:Around) (Γ:FE) (t:Sem Flow) (Q:Fl→St→Prop) (σ:St):Prop:=
 ∀frz s,Rep G Γ frz σ s→wpAny (model G.prog G.w) A t (PF G Γ frz s Q) NoE s
set_option genCtorIdx false in
mutual
inductive Bi where
 | len | min | max | sum | range | list | chr | ord
inductive Me where
 | find | startswith | endswith | join | append | pop | insert
end
noncomputable def Bi.name:Bi→String
 | .len=>"len" | .min=>"min" | .max=>"max" | .sum=>"sum" | .range=>"range" | .list=>"list" | .chr=>"chr" | .ord=>"ord"
noncomputable def Me.name:Me→String
 | .find=>"find" | .startswith=>"startswith" | .endswith=>"endswith" | .join=>"join" | .append=>"append" | .pop=>"pop" | .insert=>"insert"
set_option genCtorIdx false in
inductive Ex where
 | lit (v:V)
 | var (i:Nat)
 | bin (op:Operator) (a b:Ex)
 | neg (a:Ex)
 | not (a:Ex)
 | ite (c a b:Ex)
 | list (es:List Ex)
 | tup (es:List Ex)
 | cmp (a:Ex) (ops:List CmpOp) (es:List Ex)
 | band (es:List Ex)
 | bor (es:List Ex)
 | idx (a i:Ex)
 | slc (a lo hi st:Ex)
 | attr (o:Ex) (n:String)
 | bi (b:Bi) (args:List Ex)
 | call (f:String) (args:List Ex)
 | me (o:Ex) (m:Me) (args:List Ex)
 | imeth (o:Ex) (m:String) (args:List Ex)
 | lcall (i:Nat) (args:List Ex)
 | comp (elt:Ex) (one:Bool) (is:List Nat) (it:Ex) (cs:List Ex) (n:Nat) (caps:List Nat)
 | comp2 (elt:Ex) (one:Bool) (is:List Nat) (it iti:Ex) (j:Nat) (n:Nat) (caps:List Nat)
set_option genCtorIdx false in
inductive Tg where
 | var (i:Nat)
 | tup (is:List Nat)
 | idx (o i:Ex)
 | slc (o lo hi:Ex)
 | attr (o:Ex) (n:String)
set_option genCtorIdx false in
inductive Sm where
 | expr (e:Ex)
 | assign (ts:List Tg) (e:Ex)
 | aug (i:Nat) (op:Operator) (e:Ex)
 | del (o i:Ex)
 | ife (c:Ex) (a b:List Sm)
 | whl (c:Ex) (b:List Sm)
 | fr (t:Tg) (it:Ex) (b:List Sm)
 | ret (e:Ex)
 | brk
 | junk
structure PC where
 cls:Addr
 fld:String→Bool
 cc:String→Option V
 call:String→List V→(V→Mem→Prop)→Mem→Prop
 meth:String→List V→(V→Mem→Prop)→Mem→Prop
 loc:V→List V→(V→Mem→Prop)→Mem→Prop
noncomputable def zH {α:Type} (xs:List α) (i:Int):Option α:=(seqIndex? i xs.length).bind (xs[·]?)
noncomputable def z0c (n:Nat) (i:Int):Nat:=clipAt n i
noncomputable def zfp (n:Nat) (lo:Option Int):Nat:=lo.elim 0 (z0c n)
noncomputable def zh3 (n:Nat) (hi:Option Int):Nat:=hi.elim n (z0c n)
noncomputable def zcq {α:Type} (xs:List α) (lo hi:Option Int):List α:=
 (xs.drop (zfp xs.length lo)).take (zh3 xs.length hi-zfp xs.length lo)
noncomputable def zf8:V→Option (Option Int)
 | .none=>some none
 | .int i=>some (some i)
 | _=>none
noncomputable def rd0 (v:V):Option PyData:=match v with
 | .none=>some .none
 | .bool b=>some (.bool b)
 | .int i=>some (.int i)
 | .str s=>some (.str (mkS s))
 | _=>none
noncomputable def listAt (m:Mem) (a:Addr):Option (List V):=(m a).bind fun o=>match o with
 | .list vs=>some vs
 | _=>none
noncomputable def rd:Nat→Mem→V→Option PyData
 | 0,_,v=>rd0 v
 | n+1,m,v=>match v with
  | .tup vs=>(vs.mapM (rd n m)).map .tuple
  | .obj a=>(listAt m a).bind fun vs=>(vs.mapM (rd n m)).map .list
  | v=>rd0 v
noncomputable def yT (n:String):List (Str×V)→Option V
 | []=>none
 | (x,v)::r=>if x=Str.ofString n then some v else yT n r
noncomputable def zns (n:String) (v:V):List (Str×V)→List (Str×V)
 | []=>[(Str.ofString n,v)]
 | (x,u)::r=>if x=Str.ofString n then(x,v)::r else(x,u)::zns n v r
noncomputable def zdf (a c:Int):Nat→List V
 | 0=>[]
 | n+1=> .int a::zdf (a+c) c n
noncomputable def zs4 (a b c:Int):List V:=zdf a c (Builtin.Range.rangeSize a b c).toNat
noncomputable def sma (n:Nat):Prop:=n≤1000000
noncomputable def tiny (i:Int):Prop:=-1000000000<i∧i<1000000000
noncomputable def z3b (vs:List V) (K:V→Prop):Prop:=match vs with
 | [v]=>K v
 | _=>False
noncomputable def z89 (vs:List V) (K:V→V→Prop):Prop:=match vs with
 | [v,u]=>K v u
 | _=>False
noncomputable def asI (v:V) (K:Int→Prop):Prop:=match v with
 | .int i=>K i
 | _=>False
noncomputable def asS (v:V) (K:Tx→Prop):Prop:=match v with
 | .str i=>K i
 | _=>False
noncomputable def asO (v:V) (K:Addr→Prop):Prop:=match v with
 | .obj i=>K i
 | _=>False
theorem zeq {vs:List V}{K:V→Prop} (h:z3b vs K): ∃v,vs=[v]∧K v:=by
 cases vs with
 | nil=>exact h.elim
 | cons v r=>cases r with
  | nil=>exact⟨v,rfl,h⟩
  | cons=>exact h.elim
theorem zxk {vs:List V}{K:V→V→Prop} (h:z89 vs K): ∃v u,vs=[v,u]∧K v u:=by
 cases vs with
 | nil=>exact h.elim
 | cons v r=>cases r with
  | nil=>exact h.elim
  | cons u r=>cases r with
   | nil=>exact⟨v,u,rfl,h⟩
   | cons=>exact h.elim
theorem zb0 {v:V}{K:Int→Prop} (h:asI v K): ∃i,v= .int i∧K i:=by cases v<;>first | exact False.elim h | exact⟨_,rfl,h⟩
theorem zab {v:V}{K:Tx→Prop} (h:asS v K): ∃i,v= .str i∧K i:=by cases v<;>first | exact False.elim h | exact⟨_,rfl,h⟩
theorem zcl {v:V}{K:Addr→Prop} (h:asO v K): ∃i,v= .obj i∧K i:=by cases v<;>first | exact False.elim h | exact⟨_,rfl,h⟩
noncomputable def zpv (a b:V) (K:Int→Int→Prop):Prop:=asI a fun x=>asI b fun y=>K x y
noncomputable def z86 (m:Mem) (v u:V) (Q:V→Mem→Prop):Prop:=match v with
 | .int a=>asI u fun b=>Q (.int (a+b)) m
 | .str a=>asS u fun b=>sma a.length∧sma b.length∧Q (.str (a++b)) m
 | .obj a=>asO u fun b=> ∃xs ys,m a=some (.list xs)∧m b=some (.list ys)∧sma xs.length∧sma ys.length∧∀c,m c=none→Q (.obj c) (upd m c (.list (xs++ys)))
 | _=>False
noncomputable def z9g (m:Mem) (v u:V) (Q:V→Mem→Prop):Prop:=match v with
 | .int a=>asI u fun b=>tiny a∧Q (.int (a * b)) m
 | .obj a=>asI u fun k=> ∃x,m a=some (.list [x])∧tiny k∧sma k.toNat∧∀c,m c=none→Q (.obj c) (upd m c (.list (List.replicate k.toNat x)))
 | _=>False
noncomputable def zik (m:Mem) (op:Operator) (v u:V) (Q:V→Mem→Prop):Prop:=match op with
 | .Add=>z86 m v u Q
 | .Sub=>zpv v u fun a b=>Q (.int (a-b)) m
 | .Mult=>z9g m v u Q
 | .FloorDiv=>zpv v u fun a b=>0<b∧tiny b∧Q (.int (a/b)) m
 | .Mod=>zpv v u fun a b=>0<b∧Q (.int (a%b)) m
 | _=>False
noncomputable def zt5 (m:Mem) (a b:V) (K:Bool→Prop):Prop:= ∃d e,rd 8 m a=some d∧rd 8 m b=some e∧K (PyData.eqv d e)
noncomputable def zui (m:Mem) (a b:V) (K:Bool→Prop):Prop:=match a with
 | .int x=>(match b with | .int y=>K (decide (x=y)) | _=>zt5 m a b K)
 | .str x=>(match b with | .str y=>K (decide (x=y)) | _=>zt5 m a b K)
 | _=>zt5 m a b K
noncomputable def z1k (m:Mem) (a b:V) (K:Bool→Prop):Prop:=match b with
 | .tup vs=> ∃d ds,rd 7 m a=some d∧vs.mapM (rd 7 m)=some ds∧K (ds.any fun e=>PyData.eqv e d)
 | .obj l=> ∃vs d ds,m l=some (.list vs)∧sma vs.length∧rd 7 m a=some d∧vs.mapM (rd 7 m)=some ds∧K (ds.any fun e=>PyData.eqv e d)
 | _=>False
noncomputable def zux (a b:V) (K:Bool→Prop):Prop:=match b with
 | .none=>(match a with | .none=>K true | .tup _=>K false | _=>False)
 | _=>False
noncomputable def zck (m:Mem) (op:CmpOp) (a b:V) (Q:Bool→Prop):Prop:=match op with
 | .Eq=>zui m a b Q
 | .NotEq=>zui m a b fun t=>Q (!t)
 | .Lt=>zpv a b fun x y=>Q (decide (x<y))
 | .LtE=>zpv a b fun x y=>Q (decide (x≤y))
 | .Gt=>zpv a b fun x y=>Q (decide (y<x))
 | .GtE=>zpv a b fun x y=>Q (decide (y≤x))
 | .Is=>zux a b Q
 | .IsNot=>zux a b fun t=>Q (!t)
 | .In=>z1k m a b Q
 | .NotIn=>z1k m a b fun t=>Q (!t)
noncomputable def zK (m:Mem):V→(Bool→Prop)→Prop
 | .none,Q=>Q false
 | .bool b,Q=>Q b
 | .int i,Q=>Q (i !=0)
 | .str s,Q=>sma s.length∧Q (!s.isEmpty)
 | .tup vs,Q=>sma vs.length∧Q (!vs.isEmpty)
 | .obj a,Q=> ∃vs,m a=some (.list vs)∧sma vs.length∧Q (!vs.isEmpty)
 | _,_=>False
noncomputable def ixV (m:Mem) (v:V) (i:Int) (Q:V→Prop):Prop:=match v with
 | .str s=>tiny i∧∃c,zH s i=some c∧Q (.str [c])
 | .tup vs=>tiny i∧∃v,zH vs i=some v∧Q v
 | .obj a=>tiny i∧∃vs v,m a=some (.list vs)∧zH vs i=some v∧Q v
 | _=>False
noncomputable def zju (m:Mem) (v u:V) (Q:V→Prop):Prop:=asI u fun i=>ixV m v i Q
noncomputable def slK (v:V) (K:Option Int→Prop):Prop:=match v with
 | .none=>K none
 | .int i=>K (some i)
 | _=>False
noncomputable def stK (v:V) (K:Option Int→Prop):Prop:=match v with
 | .none=>K none
 | .int i=>0<i∧K (some i)
 | _=>False
noncomputable def z3u {α:Type} (xs:List α) (lo hi:Option Int) (st:Option Int):List α:=match st with
 | none=>zcq xs lo hi
 | some k=>(sliceRange (sliceBounds lo hi (some k) xs.length).1 (sliceBounds lo hi (some k) xs.length).2.1 (sliceBounds lo hi (some k) xs.length).2.2).filterMap (xs[·]?)
noncomputable def slS (m:Mem) (s:Tx) (lo hi st:V) (Q:V→Mem→Prop):Prop:=match st with
 | .none=>slK lo fun a=>slK hi fun b=>sma s.length∧Q (.str (zcq s a b)) m
 | _=>False
noncomputable def zoo (m:Mem) (v lo hi st:V) (Q:V→Mem→Prop):Prop:=match v with
 | .str s=>slS m s lo hi st Q
 | .obj l=>slK lo fun a=>slK hi fun b=>stK st fun k=> ∃vs,(m l=some (.list vs)∨∃o,m l=some (.ro o vs))∧sma vs.length∧∀c,m c=none→Q (.obj c) (upd m c (.list (z3u vs a b k)))
 | _=>False
noncomputable def ziy (P:PC) (m:Mem):V→String→(V→Prop)→Prop
 | .obj a,n,Q=> ∃d fs,m a=some (.inst P.cls d)∧m d=some (.dict fs)∧match yT n fs with
   | some v=>P.fld n=true∧Q v
   | none=> ∃v,P.cc n=some v∧Q v
 | _,_,_=>False
noncomputable def Occ (s t:Tx) (i:Nat):Prop:=i+t.length≤s.length∧(s.drop i).take t.length=t
noncomputable def zgd (s t:Tx) (k:Nat) (r:Int):Prop:=(r=-1∧∀i,k≤i→¬Occ s t i)∨∃i:Nat,r=i∧k≤i∧Occ s t i∧∀j,k≤j→j<i→¬Occ s t j
noncomputable def z9e (m:Mem) (v:V) (Q:V→Mem→Prop):Prop:=match v with
 | .str s=>sma s.length∧Q (.int s.length) m
 | .tup vs=>sma vs.length∧Q (.int vs.length) m
 | .obj a=> ∃vs,(m a=some (.list vs)∨∃o,m a=some (.ro o vs))∧sma vs.length∧Q (.int vs.length) m
 | _=>False
noncomputable def z85 (m:Mem) (v:V) (Q:V→Mem→Prop):Prop:=asO v fun a=> ∃ns:List Int,m a=some (.list (ns.map V.int))∧0<ns.length∧∀M:Int,M∈ns→(∀a,a∈ns→a≤M)→Q (.int M) m
noncomputable def listV (m:Mem) (v:V) (Q:V→Mem→Prop):Prop:=match v with
 | .tup vs=>sma vs.length∧∀c,m c=none→Q (.obj c) (upd m c (.list vs))
 | .obj a=> ∃vs,m a=some (.list vs)∧sma vs.length∧∀c,m c=none→Q (.obj c) (upd m c (.list vs))
 | .rng a b k=> ∃n:Nat,a=0∧b=n∧k=1∧sma n∧∀c,m c=none→Q (.obj c) (upd m c (.list ((List.range' 0 n).map fun j:Nat=>V.int j)))
 | _=>False
noncomputable def z80 (m:Mem) (v:V) (Q:V→Mem→Prop):Prop:=asO v fun a=> ∃ns:List Int,(m a=some (.list (ns.map V.int))∨∃o,m a=some (.ro o (ns.map V.int)))∧Q (.int ns.sum) m
noncomputable def zys (vs:List V) (K:V→Prop) (L:V→V→Prop):Prop:=match vs with
 | [v]=>K v
 | [v,u]=>L v u
 | _=>False
noncomputable def z55 (vs:List V) (K:V→Prop) (L:V→V→Prop) (N:V→V→V→Prop):Prop:=match vs with
 | [v]=>K v
 | [v,u]=>L v u
 | [v,u,w]=>N v u w
 | _=>False
noncomputable def z5p (vs:List V) (L:V→V→Prop) (N:V→V→V→Prop):Prop:=match vs with
 | [v,u]=>L v u
 | [v,u,w]=>N v u w
 | _=>False
noncomputable def zr3 (m:Mem) (b:Bi) (args:List V) (Q:V→Mem→Prop):Prop:=match b with
 | .len=>z3b args fun v=>z9e m v Q
 | .min=>z5p args (fun v u=>zpv v u fun a b=>Q (.int (if b<a then b else a)) m) fun v u w=>False
 | .max=>zys args (fun v=>z85 m v Q) fun v u=>zpv v u fun a b=>Q (.int (if a<b then b else a)) m
 | .range=>z55 args (fun v=>asI v fun a=>tiny a∧Q (.rng 0 a 1) m) (fun v u=>zpv v u fun a b=>tiny a∧tiny b∧Q (.rng a b 1) m)
   fun v u w=>zpv v u fun a b=>asI w fun c=>tiny a∧tiny b∧tiny c∧0<c∧Q (.rng a b c) m
 | .list=>False
 | .sum=>z3b args fun v=>z80 m v Q
 | .chr=>False
 | .ord=>False
theorem zmc {vs:List V}{K:V→Prop}{L:V→V→Prop} (h:zys vs K L):(∃v,vs=[v]∧K v)∨∃v u,vs=[v,u]∧L v u:=by
 match vs,h with
 | [v],h=>exact .inl ⟨_,rfl,h⟩
 | [v,u],h=>exact .inr ⟨_,_,rfl,h⟩
theorem zsv {vs:List V}{K:V→Prop}{L:V→V→Prop}{N:V→V→V→Prop} (h:z55 vs K L N):(∃v,vs=[v]∧K v)∨(∃v u,vs=[v,u]∧L v u)∨∃v u w,vs=[v,u,w]∧N v u w:=by
 match vs,h with
 | [v],h=>exact .inl ⟨_,rfl,h⟩
 | [v,u],h=>exact .inr (.inl ⟨_,_,rfl,h⟩)
 | [v,u,w],h=>exact .inr (.inr ⟨_,_,_,rfl,h⟩)
theorem zta {vs:List V}{L:V→V→Prop}{N:V→V→V→Prop} (h:z5p vs L N):(∃v u,vs=[v,u]∧L v u)∨∃v u w,vs=[v,u,w]∧N v u w:=by
 match vs,h with
 | [v,u],h=>exact .inl ⟨_,_,rfl,h⟩
 | [v,u,w],h=>exact .inr ⟨_,_,_,rfl,h⟩
noncomputable def zwy (m:Mem) (v:V) (me:Me):Prop:=match me with
 | .find=>asS v fun _=>True
 | .startswith=>asS v fun _=>True
 | .endswith=>asS v fun _=>True
 | .join=>asS v fun _=>True
 | .append=>asO v fun a=> ∃l,m a=some (.list l)
 | .pop=>asO v fun a=> ∃l,m a=some (.list l)
 | .insert=>asO v fun a=> ∃l,m a=some (.list l)
noncomputable def zt4 (m:Mem) (o:V) (me:Me) (args:List V) (Q:V→Mem→Prop):Prop:=match me with
 | .find=>asS o fun s=>zys args (fun v=>asS v fun t=>sma s.length∧sma t.length∧∀r,zgd s t 0 r→Q (.int r) m)
   fun v u=>asS v fun t=>asI u fun i=>sma s.length∧sma t.length∧0≤i∧∀r,zgd s t i.toNat r→Q (.int r) m
 | .startswith=>asS o fun s=>z3b args fun v=>asS v fun t=>Q (.bool (decide (s.take t.length=t))) m
 | .endswith=>asS o fun s=>z3b args fun v=>asS v fun t=>Q (.bool (decide (t.length≤s.length∧s.drop (s.length-t.length)=t))) m
 | .append=>asO o fun a=>z3b args fun v=> ∃vs,m a=some (.list vs)∧sma vs.length∧Q .none (upd m a (.list (vs++[v])))
 | .join=>asS o fun s=>s=[]∧z3b args fun v=>asO v fun a=> ∃xs:List Tx,m a=some (.list (xs.map V.str))∧xs.length≤500000∧xs.flatten.length≤500000∧Q (.str xs.flatten) m
 | .pop=>asO o fun a=>args=[]∧∃vs v,m a=some (.list (vs++[v]))∧sma vs.length∧Q v (upd m a (.list vs))
 | .insert=>asO o fun a=>z89 args fun i v=>asI i fun k=>0≤k∧tiny k∧∃vs,m a=some (.list vs)∧sma vs.length∧Q .none (upd m a (.list (vs.take k.toNat++v::vs.drop k.toNat)))
noncomputable def St.set (σ:St) (i:Nat) (v:V):St:={σ with loc:=σ.loc.set i (some v)}
noncomputable def St.setAll (σ:St):List Nat→List V→St
 | i::is,v::vs=>(σ.set i v).setAll is vs
 | _,_=>σ
noncomputable def yC (one:Bool) (is:List Nat) (v:V) (Q:St→Prop) (σ:St):Prop:=
 if one then(match is with | [i]=>Q (σ.set i v) | _=>False) else match v with | .tup vs=>vs.length=is.length∧Q (σ.setAll is vs) | _=>False
noncomputable def yG (m:Mem):V→(List V→(Mem→Prop)→Prop)→Prop
 | .tup vs,K=>sma vs.length∧K vs fun _=>True
 | .str s,K=>sma s.length∧K (s.map fun c=> .str [c]) fun _=>True
 | .rng a b c,K=>tiny a∧tiny b∧tiny c∧0<c∧K (zs4 a b c) fun _=>True
 | .obj a,K=> ∃vs,m a=some (.list vs)∧sma vs.length∧K vs fun m'=>m' a=some (.list vs)
 | _,_=>False
noncomputable def zc5 (bind:V→(St→Prop)→St→Prop) (test:(Bool→St→Prop)→St→Prop) (elt:(V→St→Prop)→St→Prop) (g:Mem→Prop) (R:List V→St→Prop):List V→List V→St→Prop
 | [],us,σ=>g σ.mem∧R us σ
 | v::vs,us,σ=>g σ.mem∧bind v (test fun b σ₁=>if b then elt (fun u σ₂=>zc5 bind test elt g R vs (us++[u]) σ₂) σ₁ else zc5 bind test elt g R vs us σ₁) σ
noncomputable def zek (bind:V→(St→Prop)→St→Prop) (iti:(V→St→Prop)→St→Prop) (bind2:V→(St→Prop)→St→Prop) (test:(Bool→St→Prop)→St→Prop) (elt:(V→St→Prop)→St→Prop) (g:Mem→Prop) (R:List V→St→Prop):List V→List V→St→Prop
 | [],us,σ=>g σ.mem∧R us σ
 | v::vs,us,σ=>g σ.mem∧bind v (iti fun w σ₁=>yG σ₁.mem w fun ws g2=>sma (us.length+ws.length)∧zc5 bind2 test elt g2 (fun us' σ₂=>zek bind iti bind2 test elt g R vs us' σ₂) ws us σ₁) σ
noncomputable def zeh (σ:St) (n:Nat) (caps:List Nat):St:=⟨List.replicate n none++caps.map fun i=>(σ.loc[i]?).join,σ.mem⟩
mutual
noncomputable def wpE (P:PC):Ex→(V→St→Prop)→St→Prop
 | .lit v,Q,σ=>Q v σ
 | .var i,Q,σ=>match σ.loc[i]? with | some (some v)=>Q v σ | _=>False
 | .bin op a b,Q,σ=>wpE P a (fun v σ₁=>wpE P b (fun u σ₂=>zik σ₂.mem op v u fun r m=>Q r {σ₂ with mem:=m}) σ₁) σ
 | .neg a,Q,σ=>wpE P a (fun v σ₁=>match v with | .int i=>Q (.int (-i)) σ₁ | _=>False) σ
 | .not a,Q,σ=>wpE P a (fun v σ₁=>zK σ₁.mem v fun b=>Q (.bool (!b)) σ₁) σ
 | .ite c a b,Q,σ=>wpT P c (wpE P c) (fun t σ₁=>if t then wpE P a Q σ₁ else wpE P b Q σ₁) σ
 | .list es,Q,σ=>zj0 P es (fun vs σ₁=> ∀a,σ₁.mem a=none→Q (.obj a) {σ₁ with mem:=upd σ₁.mem a (.list vs)}) σ
 | .tup es,Q,σ=>zj0 P es (fun vs σ₁=>Q (.tup vs) σ₁) σ
 | .cmp a ops es,Q,σ=>wpE P a (fun v σ₁=>zsm P ops es v (fun b σ₂=>Q (.bool b) σ₂) σ₁) σ
 | .band es,Q,σ=>zwq P true es Q σ
 | .bor es,Q,σ=>zwq P false es Q σ
 | .idx a i,Q,σ=>wpE P a (fun v σ₁=>wpE P i (fun u σ₂=>zju σ₂.mem v u fun r=>Q r σ₂) σ₁) σ
 | .slc a lo hi st,Q,σ=>wpE P a (fun v σ₁=>wpE P lo (fun l σ₂=>wpE P hi (fun h σ₃=>wpE P st (fun s σ₄=>zoo σ₄.mem v l h s fun r m=>Q r {σ₄ with mem:=m}) σ₃) σ₂) σ₁) σ
 | .attr o n,Q,σ=>wpE P o (fun v σ₁=>ziy P σ₁.mem v n fun r=>Q r σ₁) σ
 | .bi b args,Q,σ=>zj0 P args (fun vs σ₁=>zr3 σ₁.mem b vs fun r m=>Q r {σ₁ with mem:=m}) σ
 | .call f args,Q,σ=>zj0 P args (fun vs σ₁=>P.call f vs (fun r m=>Q r {σ₁ with mem:=m}) σ₁.mem) σ
 | .me o m args,Q,σ=>wpE P o (fun v σ₁=>zwy σ₁.mem v m∧zj0 P args (fun vs σ₂=>zt4 σ₂.mem v m vs fun r m'=>Q r {σ₂ with mem:=m'}) σ₁) σ
 | .imeth o n args,Q,σ=>wpE P o (fun v σ₁=>(∃a d fs,v= .obj a∧σ₁.mem a=some (.inst P.cls d)∧σ₁.mem d=some (.dict fs)∧yT n fs=none)∧
   zj0 P args (fun vs σ₂=>P.meth n (v::vs) (fun r m=>Q r {σ₂ with mem:=m}) σ₂.mem) σ₁) σ
 | .lcall i args,Q,σ=>match σ.loc[i]? with | some (some v)=>zj0 P args (fun vs σ₁=>P.loc v vs (fun r m=>Q r {σ₁ with mem:=m}) σ₁.mem) σ | _=>False
 | .comp elt one is it cs n caps,Q,σ=>wpE P it (fun v σ₁=>yG σ₁.mem v fun vs g=>sma vs.length∧
   zc5 (yC one is) (zjy P true cs) (wpE P elt) g (fun us σ'=> ∀a,σ'.mem a=none→Q (.obj a) {σ₁ with mem:=upd σ'.mem a (.list us)}) vs [] (zeh σ₁ n caps)) σ
 | .comp2 elt one is it iti j n caps,Q,σ=>wpE P it (fun v σ₁=>yG σ₁.mem v fun vs g=>sma vs.length∧
   zek (yC one is) (wpE P iti) (yC true [j]) (fun k σ=>k true σ) (wpE P elt) g (fun us σ'=> ∀a,σ'.mem a=none→Q (.obj a) {σ₁ with mem:=upd σ'.mem a (.list us)}) vs [] (zeh σ₁ n caps)) σ
noncomputable def zj0 (P:PC):List Ex→(List V→St→Prop)→St→Prop
 | [],Q,σ=>Q [] σ
 | e::es,Q,σ=>wpE P e (fun v σ₁=>zj0 P es (fun vs σ₂=>Q (v::vs) σ₂) σ₁) σ
noncomputable def zsm (P:PC):List CmpOp→List Ex→V→(Bool→St→Prop)→St→Prop
 | op::ops,e::es,v,Q,σ=>match ops with
  | []=>(match es with | []=>wpE P e (fun u σ₁=>zck σ₁.mem op v u fun b=>Q b σ₁) σ | _::_=>False)
  | _::_=>wpE P e (fun u σ₁=>zck σ₁.mem op v u fun b=>if b then zsm P ops es u Q σ₁ else Q false σ₁) σ
 | _,_,_,_,_=>False
noncomputable def zwq (P:PC) (k:Bool):List Ex→(V→St→Prop)→St→Prop
 | [],_,_=>False
 | [e],Q,σ=>wpE P e Q σ
 | e::es,Q,σ=>wpE P e (fun v σ₁=>zK σ₁.mem v fun b=>if b=k then zwq P k es Q σ₁ else Q v σ₁) σ
noncomputable def wpT (P:PC):Ex→((V→St→Prop)→St→Prop)→(Bool→St→Prop)→St→Prop
 | .not a,_,Q,σ=>wpT P a (wpE P a) (fun b σ₁=>Q (!b) σ₁) σ
 | .band es,_,Q,σ=>zjy P true es Q σ
 | .bor es,_,Q,σ=>zjy P false es Q σ
 | .ite c a b,_,Q,σ=>wpT P c (wpE P c) (fun t σ₁=>if t then wpT P a (wpE P a) Q σ₁ else wpT P b (wpE P b) Q σ₁) σ
 | .cmp a ops es,_,Q,σ=>wpE P a (fun v σ₁=>zsm P ops es v Q σ₁) σ
 | _,w,Q,σ=>w (fun v σ₁=>zK σ₁.mem v fun b=>Q b σ₁) σ
noncomputable def zjy (P:PC) (k:Bool):List Ex→(Bool→St→Prop)→St→Prop
 | [],Q,σ=>Q k σ
 | e::es,Q,σ=>wpT P e (wpE P e) (fun b σ₁=>if b=k then zjy P k es Q σ₁ else Q (!k) σ₁) σ
end
theorem zof {o:Option (Option V)}{K:V→Prop} (h:match o with | some (some v)=>K v | _=>False): ∃v,o=some (some v)∧K v:=by
 cases o with
 | none=>exact h.elim
 | some o=>cases o with
  | none=>exact h.elim
  | some v=>exact⟨v,rfl,h⟩
theorem zu3 {v:V}{K:List V→Prop} (h:match v with | .tup vs=>K vs | _=>False): ∃vs,v= .tup vs∧K vs:=by
 cases v<;>first | exact h.elim | exact⟨_,rfl,h⟩
noncomputable def zpz (n:Nat) (i:Int):Option Nat:=seqIndex? i n
noncomputable def zr0 (_m:Mem) (op:Operator) (v u:V) (Q:V→Prop):Prop:=match op with
 | .Add=>(match v with
  | .int a=>asI u fun b=>Q (.int (a+b))
  | .str a=>asS u fun b=>sma a.length∧sma b.length∧Q (.str (a++b))
  | _=>False)
 | .Sub=>zpv v u fun a b=>Q (.int (a-b))
 | _=>False
noncomputable def zkp (P:PC):Tg→V→(St→Prop)→St→Prop
 | .var i,v,Q,σ=>Q (σ.set i v)
 | .tup is,v,Q,σ=>match v with | .tup vs=>vs.length=is.length∧Q (σ.setAll is vs) | _=>False
 | .idx o i,v,Q,σ=>wpE P o (fun ov σ₁=>wpE P i (fun iv σ₂=> ∃a k vs j,ov= .obj a∧iv= .int k∧tiny k∧σ₂.mem a=some (.list vs)∧zpz vs.length k=some j∧
   Q {σ₂ with mem:=upd σ₂.mem a (.list (vs.set j v))}) σ₁) σ
 | .slc o lo hi,v,Q,σ=>wpE P o (fun ov σ₁=>wpE P lo (fun l σ₂=>wpE P hi (fun h σ₃=> ∃a b ia ib xs ys,ov= .obj a∧v= .obj b∧zf8 l=some ia∧zf8 h=some ib∧a≠b∧
   σ₃.mem a=some (.list xs)∧σ₃.mem b=some (.list ys)∧sma xs.length∧sma ys.length∧
   Q {σ₃ with mem:=upd σ₃.mem a (.list (xs.take (zfp xs.length ia)++ys++xs.drop (max (zfp xs.length ia) (zh3 xs.length ib))))}) σ₂) σ₁) σ
 | .attr o n,v,Q,σ=>wpE P o (fun ov σ₁=> ∃a d fs,ov= .obj a∧σ₁.mem a=some (.inst P.cls d)∧σ₁.mem d=some (.dict fs)∧fs.length≤100∧P.fld n=true∧
   Q {σ₁ with mem:=upd σ₁.mem d (.dict (zns n v fs))}) σ
noncomputable def zh0 (P:PC):List Tg→V→(St→Prop)→St→Prop
 | [],_,Q,σ=>Q σ
 | t::ts,v,Q,σ=>zkp P t v (fun σ₁=>zh0 P ts v Q σ₁) σ
noncomputable def zem (bind:V→(St→Prop)→St→Prop) (body:(Fl→St→Prop)→St→Prop) (g:Mem→Prop) (Q:Fl→St→Prop):List V→St→Prop
 | [],σ=>g σ.mem∧Q .next σ
 | v::vs,σ=>g σ.mem∧bind v (body fun fl σ₁=>match fl with
   | .next=>zem bind body g Q vs σ₁
   | .cont=>zem bind body g Q vs σ₁
   | .brk=>Q .next σ₁
   | .ret r=>Q (.ret r) σ₁) σ
noncomputable def zuh (test:(Bool→St→Prop)→St→Prop) (body:(Fl→St→Prop)→St→Prop) (Q:Fl→St→Prop) (σ:St):Prop:=
 ∃I:Nat→St→Prop,(∃n,I n σ)∧∀n σ',I n σ'→test (fun b σ₁=>if b then body (fun fl σ₂=>match fl with
   | .next=> ∃k,k<n∧I k σ₂
   | .cont=> ∃k,k<n∧I k σ₂
   | .brk=>Q .next σ₂
   | .ret r=>Q (.ret r) σ₂) σ₁ else Q .next σ₁) σ'
mutual
noncomputable def wpS (P:PC):Sm→(Fl→St→Prop)→St→Prop
 | .expr e,Q,σ=>wpE P e (fun _ σ₁=>Q .next σ₁) σ
 | .assign ts e,Q,σ=>wpE P e (fun v σ₁=>zh0 P ts v (fun σ₂=>Q .next σ₂) σ₁) σ
 | .aug i op e,Q,σ=>match σ.loc[i]? with | some (some v)=>wpE P e (fun u σ₁=>zr0 σ₁.mem op v u fun r=>Q .next (σ₁.set i r)) σ | _=>False
 | .del o i,Q,σ=>wpE P o (fun ov σ₁=>wpE P i (fun iv σ₂=> ∃a k vs j,ov= .obj a∧iv= .int k∧tiny k∧σ₂.mem a=some (.list vs)∧zpz vs.length k=some j∧sma vs.length∧
   Q .next {σ₂ with mem:=upd σ₂.mem a (.list (vs.eraseIdx j))}) σ₁) σ
 | .ife c a b,Q,σ=>wpT P c (wpE P c) (fun t σ₁=>if t then zs P a Q σ₁ else zs P b Q σ₁) σ
 | .whl c b,Q,σ=>zuh (wpT P c (wpE P c)) (zs P b) Q σ
 | .fr t it b,Q,σ=>wpE P it (fun v σ₁=>yG σ₁.mem v fun vs g=>zem (zkp P t) (zs P b) g Q vs σ₁) σ
 | .ret e,Q,σ=>wpE P e (fun v σ₁=>Q (.ret v) σ₁) σ
 | .brk,Q,σ=>Q .brk σ
 | .junk,_,_=>False
noncomputable def zs (P:PC):List Sm→(Fl→St→Prop)→St→Prop
 | [],Q,σ=>Q .next σ
 | s::ss,Q,σ=>wpS P s (fun fl σ₁=>match fl with | .next=>zs P ss Q σ₁ | .brk=>Q .brk σ₁ | .cont=>Q .cont σ₁ | .ret r=>Q (.ret r) σ₁) σ
end
structure SC where
 vars:List (Str×Bool)
 names:List (Str×NameKind)
 fns:List String
 meths:List String
 cells:List Str
noncomputable def zx3 (v:V) (c:Const):Bool:=match v with
 | .none=>c== .none
 | .bool b=>c== .bool b
 | .int i=>c== .int i
 | .flt x=>c== .float x
 | .str s=>c== .str (mkS s)
 | _=>false
noncomputable def SC.is (C:SC) (i:Nat) (x:Str):Bool:=match C.vars[i]? with | some (y,_)=>y==x | none=>false
noncomputable def SC.isW (C:SC) (i:Nat) (x:Str):Bool:=match C.vars[i]? with | some (y,r)=>y==x&&!r | none=>false
noncomputable def SC.glob (C:SC) (n:String) (x:Str):Bool:=Str.ofString n==x&&C.names.lookup x==some .globalImplicit&&!(x==Str.ofString "__debug__")
noncomputable def zbu (e:Expr):Bool:=e.ctorIdx !=16
noncomputable def zT (e:Expr):Bool:=e.ctorIdx !=22&&e.ctorIdx !=7
theorem zbx {c:Prop} [Decidable c] {f:c→Bool} (h:(if h:c then f h else false)=true): ∃i,f i=true:=by
 by_cases i:c
 ·rw[dif_pos i] at h;exact⟨i,h⟩
 ·rw[dif_neg i] at h;cases h
noncomputable def zs6 (e:Expr) (K:Const→Bool):Bool:=if h:e.ctorIdx=19 then Expr.Constant.elim (motive_1:=fun _=>Bool) e h fun c _ _=>K c else false
theorem znq {e:Expr}{K:Const→Bool}{M:Expr→Prop} (h:zs6 e K=true) (kk: ∀(c:Const) (k:Nat) (p:Pos),K c=true→M (.Constant c k p)):M e:=
 let ⟨i,q⟩:=zbx h
 Expr.Constant.elim (motive_1:=fun e=> ∀i,Expr.Constant.elim (motive_1:=fun _=>Bool) e i (fun c _ _=>K c)=true→M e) e i (fun c k p _ q=>kk c k p q) i q
noncomputable def zc3 (e:Expr) (K:Str→Bool):Bool:=if h:e.ctorIdx=23 then Expr.Name.elim (motive_1:=fun _=>Bool) e h fun n _=>K n else false
theorem zez {e:Expr}{K:Str→Bool}{M:Expr→Prop} (h:zc3 e K=true) (kk: ∀(n:Str) (p:Pos),K n=true→M (.Name n p)):M e:=
 let ⟨i,q⟩:=zbx h
 Expr.Name.elim (motive_1:=fun e=> ∀i,Expr.Name.elim (motive_1:=fun _=>Bool) e i (fun n _=>K n)=true→M e) e i (fun n p _ q=>kk n p q) i q
noncomputable def z6y (e:Expr) (K:Expr→Operator→Expr→Bool):Bool:=if h:e.ctorIdx=2 then Expr.BinOp.elim (motive_1:=fun _=>Bool) e h fun l o r _=>K l o r else false
theorem zwc {e:Expr}{K:Expr→Operator→Expr→Bool}{M:Expr→Prop} (h:z6y e K=true) (kk: ∀(l:Expr) (o:Operator) (r:Expr) (p:Pos),K l o r=true→M (.BinOp l o r p)):M e:=
 let ⟨i,q⟩:=zbx h
 Expr.BinOp.elim (motive_1:=fun e=> ∀i,Expr.BinOp.elim (motive_1:=fun _=>Bool) e i (fun l o r _=>K l o r)=true→M e) e i (fun l o r p _ q=>kk l o r p q) i q
noncomputable def z7v (e:Expr) (K:UnaryOp→Expr→Bool):Bool:=if h:e.ctorIdx=3 then Expr.UnaryOp.elim (motive_1:=fun _=>Bool) e h fun o y _=>K o y else false
theorem zzx {e:Expr}{K:UnaryOp→Expr→Bool}{M:Expr→Prop} (h:z7v e K=true) (kk: ∀(o:UnaryOp) (y:Expr) (p:Pos),K o y=true→M (.UnaryOp o y p)):M e:=
 let ⟨i,q⟩:=zbx h
 Expr.UnaryOp.elim (motive_1:=fun e=> ∀i,Expr.UnaryOp.elim (motive_1:=fun _=>Bool) e i (fun o y _=>K o y)=true→M e) e i (fun o y p _ q=>kk o y p q) i q
noncomputable def z84 (e:Expr) (K:Expr→Expr→Expr→Bool):Bool:=if h:e.ctorIdx=5 then Expr.IfExp.elim (motive_1:=fun _=>Bool) e h fun t y z _=>K t y z else false
theorem z4g {e:Expr}{K:Expr→Expr→Expr→Bool}{M:Expr→Prop} (h:z84 e K=true) (kk: ∀(t:Expr) (y:Expr) (z:Expr) (p:Pos),K t y z=true→M (.IfExp t y z p)):M e:=
 let ⟨i,q⟩:=zbx h
 Expr.IfExp.elim (motive_1:=fun e=> ∀i,Expr.IfExp.elim (motive_1:=fun _=>Bool) e i (fun t y z _=>K t y z)=true→M e) e i (fun t y z p _ q=>kk t y z p q) i q
noncomputable def zz1 (e:Expr) (K:List Expr→Bool):Bool:=if h:e.ctorIdx=24 then Expr.List.elim (motive_1:=fun _=>Bool) e h fun xs _=>K xs else false
theorem zp1 {e:Expr}{K:List Expr→Bool}{M:Expr→Prop} (h:zz1 e K=true) (kk: ∀(xs:List Expr) (p:Pos),K xs=true→M (.List xs p)):M e:=
 let ⟨i,q⟩:=zbx h
 Expr.List.elim (motive_1:=fun e=> ∀i,Expr.List.elim (motive_1:=fun _=>Bool) e i (fun xs _=>K xs)=true→M e) e i (fun xs p _ q=>kk xs p q) i q
noncomputable def isTup (e:Expr) (K:List Expr→Bool):Bool:=if h:e.ctorIdx=25 then Expr.Tuple.elim (motive_1:=fun _=>Bool) e h fun xs _ _=>K xs else false
theorem zlo {e:Expr}{K:List Expr→Bool}{M:Expr→Prop} (h:isTup e K=true) (kk: ∀(xs:List Expr) (k:Nat) (p:Pos),K xs=true→M (.Tuple xs k p)):M e:=
 let ⟨i,q⟩:=zbx h
 Expr.Tuple.elim (motive_1:=fun e=> ∀i,Expr.Tuple.elim (motive_1:=fun _=>Bool) e i (fun xs _ _=>K xs)=true→M e) e i (fun xs k p _ q=>kk xs k p q) i q
noncomputable def z57 (e:Expr) (K:Expr→List CmpOp→List Expr→Bool):Bool:=if h:e.ctorIdx=15 then Expr.Compare.elim (motive_1:=fun _=>Bool) e h fun l os cs _=>K l os cs else false
theorem z0r {e:Expr}{K:Expr→List CmpOp→List Expr→Bool}{M:Expr→Prop} (h:z57 e K=true) (kk: ∀(l:Expr) (os:List CmpOp) (cs:List Expr) (p:Pos),K l os cs=true→M (.Compare l os cs p)):M e:=
 let ⟨i,q⟩:=zbx h
 Expr.Compare.elim (motive_1:=fun e=> ∀i,Expr.Compare.elim (motive_1:=fun _=>Bool) e i (fun l os cs _=>K l os cs)=true→M e) e i (fun l os cs p _ q=>kk l os cs p q) i q
noncomputable def ztq (e:Expr) (K:BoolOp→List Expr→Bool):Bool:=if h:e.ctorIdx=0 then Expr.BoolOp.elim (motive_1:=fun _=>Bool) e h fun o xs _=>K o xs else false
theorem zpx {e:Expr}{K:BoolOp→List Expr→Bool}{M:Expr→Prop} (h:ztq e K=true) (kk: ∀(o:BoolOp) (xs:List Expr) (p:Pos),K o xs=true→M (.BoolOp o xs p)):M e:=
 let ⟨i,q⟩:=zbx h
 Expr.BoolOp.elim (motive_1:=fun e=> ∀i,Expr.BoolOp.elim (motive_1:=fun _=>Bool) e i (fun o xs _=>K o xs)=true→M e) e i (fun o xs p _ q=>kk o xs p q) i q
noncomputable def zms (e:Expr) (K:Expr→Expr→Bool):Bool:=if h:e.ctorIdx=21 then Expr.Subscript.elim (motive_1:=fun _=>Bool) e h fun v s _=>K v s else false
theorem zg9 {e:Expr}{K:Expr→Expr→Bool}{M:Expr→Prop} (h:zms e K=true) (kk: ∀(v:Expr) (s:Expr) (p:Pos),K v s=true→M (.Subscript v s p)):M e:=
 let ⟨i,q⟩:=zbx h
 Expr.Subscript.elim (motive_1:=fun e=> ∀i,Expr.Subscript.elim (motive_1:=fun _=>Bool) e i (fun v s _=>K v s)=true→M e) e i (fun v s p _ q=>kk v s p q) i q
noncomputable def zjn (e:Expr) (K:Option Expr→Option Expr→Option Expr→Bool):Bool:=if h:e.ctorIdx=26 then Expr.Slice.elim (motive_1:=fun _=>Bool) e h fun l u s _=>K l u s else false
theorem zmm {e:Expr}{K:Option Expr→Option Expr→Option Expr→Bool}{M:Expr→Prop} (h:zjn e K=true) (kk: ∀(l:Option Expr) (u:Option Expr) (s:Option Expr) (p:Pos),K l u s=true→M (.Slice l u s p)):M e:=
 let ⟨i,q⟩:=zbx h
 Expr.Slice.elim (motive_1:=fun e=> ∀i,Expr.Slice.elim (motive_1:=fun _=>Bool) e i (fun l u s _=>K l u s)=true→M e) e i (fun l u s p _ q=>kk l u s p q) i q
noncomputable def zis (e:Expr) (K:Expr→Str→Pos→Bool):Bool:=if h:e.ctorIdx=20 then Expr.Attribute.elim (motive_1:=fun _=>Bool) e h fun v y p=>K v y p else false
theorem zh4 {e:Expr}{K:Expr→Str→Pos→Bool}{M:Expr→Prop} (h:zis e K=true) (kk: ∀(v:Expr) (y:Str) (p:Pos),K v y p=true→M (.Attribute v y p)):M e:=
 let ⟨i,q⟩:=zbx h
 Expr.Attribute.elim (motive_1:=fun e=> ∀i,Expr.Attribute.elim (motive_1:=fun _=>Bool) e i (fun v y p=>K v y p)=true→M e) e i (fun v y p _ q=>kk v y p q) i q
noncomputable def zgl (e:Expr) (K:Expr→List Expr→List Keyword→Pos→Bool):Bool:=if h:e.ctorIdx=16 then Expr.Call.elim (motive_1:=fun _=>Bool) e h fun f xs k p=>K f xs k p else false
theorem zk3 {e:Expr}{K:Expr→List Expr→List Keyword→Pos→Bool}{M:Expr→Prop} (h:zgl e K=true) (kk: ∀(f:Expr) (xs:List Expr) (k:List Keyword) (p:Pos),K f xs k p=true→M (.Call f xs k p)):M e:=
 let ⟨i,q⟩:=zbx h
 Expr.Call.elim (motive_1:=fun e=> ∀i,Expr.Call.elim (motive_1:=fun _=>Bool) e i (fun f xs k p=>K f xs k p)=true→M e) e i (fun f xs k p _ q=>kk f xs k p q) i q
noncomputable def z7i (e:Expr) (K:Expr→List Comprehension→Scope→Bool):Bool:=if h:e.ctorIdx=8 then Expr.ListComp.elim (motive_1:=fun _=>Bool) e h fun elt gs sc _=>K elt gs sc else false
theorem zzs {e:Expr}{K:Expr→List Comprehension→Scope→Bool}{M:Expr→Prop} (h:z7i e K=true) (kk: ∀(elt:Expr) (gs:List Comprehension) (sc:Scope) (p:Pos),K elt gs sc=true→M (.ListComp elt gs sc p)):M e:=
 let ⟨i,q⟩:=zbx h
 Expr.ListComp.elim (motive_1:=fun e=> ∀i,Expr.ListComp.elim (motive_1:=fun _=>Bool) e i (fun elt gs sc _=>K elt gs sc)=true→M e) e i (fun elt gs sc p _ q=>kk elt gs sc p q) i q
noncomputable def z7a (gs:List Comprehension) (K:Expr→Expr→List Expr→Bool):Bool:=match gs with
 | []=>false
 | g::r=>r.isEmpty&&g.is_async==0&&K g.target g.iter g.ifs
theorem zqe {gs:List Comprehension}{K:Expr→Expr→List Expr→Bool}{M:List Comprehension→Prop} (h:z7a gs K=true) (k: ∀t i cs,K t i cs=true→M [⟨t,i,cs,0⟩]):M gs:=
 match gs,h with
 | ⟨t,i,cs,a⟩::r,h=>by
  obtain⟨h1,h⟩:=(Bool.and_eq_true _ _).mp h
  obtain⟨h1,h2⟩:=(Bool.and_eq_true _ _).mp h1
  obtain rfl:=List.isEmpty_iff.mp h1
  obtain rfl:a=0:=beq_iff_eq.mp h2
  exact k t i cs h
noncomputable def z78 (gs:List Comprehension) (K:Expr→Expr→Expr→Expr→Bool):Bool:=match gs with
 | []=>false
 | g::r=>g.ifs.isEmpty&&(g.is_async==0&&z7a r fun t i cs=>cs.isEmpty&&K g.target g.iter t i)
theorem zb {a b:Bool} (h:(a&&b)=true):a=true∧b=true:=(Bool.and_eq_true a b).mp h
theorem zx4 {gs:List Comprehension}{K:Expr→Expr→Expr→Expr→Bool}{M:List Comprehension→Prop} (h:z78 gs K=true) (k: ∀t i t' i',K t i t' i'=true→M [⟨t,i,[],0⟩,⟨t',i',[],0⟩]):M gs:=
 match gs,h with
 | ⟨t,i,cs,a⟩::r,h=>by
  obtain⟨h1,h⟩:=zb h
  obtain⟨h2,h⟩:=zb h
  obtain rfl:cs=[]:=List.isEmpty_iff.mp h1
  obtain rfl:a=0:=beq_iff_eq.mp h2
  exact zqe (M:=fun l=>M (_::l)) h fun t' i' cs' q=>by
   obtain⟨h3,q⟩:=zb q
   obtain rfl:=List.isEmpty_iff.mp h3
   exact k _ _ _ _ q
noncomputable def zgx (C:SC):List Nat→List Expr→Bool
 | [],xs=>xs.isEmpty
 | i::is,xs=>xs.head?.any fun e=>zc3 e fun x=>C.isW i x&&zgx C is xs.tail
noncomputable def zgb:List Nat→Bool
 | []=>true
 | i::is=>!is.contains i&&zgb is
noncomputable def zav (C:SC) (one:Bool) (is:List Nat) (x:Expr):Bool:=
 if one then(match is with | [i]=>zc3 x fun n=>C.isW i n | _=>false) else isTup x fun xs=>zgb is&&zgx C is xs
noncomputable def zkq:List Str→Bool
 | []=>true
 | x::xs=>!xs.contains x&&zkq xs
noncomputable def zqk (names:List (Str×NameKind)):List Str:=names.filterMap fun p=>if p.2== .local&&!(p.1==Str.ofString ".0") then some p.1 else none
noncomputable def yK (names:List (Str×NameKind)):List Str:=names.filterMap fun p=>if p.2== .free then some p.1 else none
noncomputable def zC (C:SC) (sc:Scope):SC:=⟨(zqk sc.names).map (·,false)++(yK sc.names).map (·,true),sc.names.filter fun p=>p.2== .globalImplicit,C.fns,C.meths,yK sc.names⟩
noncomputable def znw (C:SC):List Nat→List Str→Bool
 | [],xs=>xs.isEmpty
 | i::is,xs=>xs.head?.any fun x=>C.is i x&&C.cells.contains x&&znw C is xs.tail
noncomputable def zgk (C:SC) (sc:Scope) (n:Nat) (caps:List Nat):Bool:=
 sc.kind== .function&&(zqk sc.names).length==n&&znw C caps (yK sc.names)&&zkq (sc.names.map (·.1)) &&
 sc.names.all (fun p=>(p.2== .local||p.2== .free||p.2== .globalImplicit)&&!(p.1==Str.ofString "__debug__")&&!(p.1==Str.ofString "__classdict__"))
noncomputable def zf3:Ex→Bool
 | .lit v=>match v with
  | .none=>true
  | _=>false
 | _=>false
noncomputable def zyh (n:Bool) (f:Expr→Bool) (x:Option Expr):Bool:=match x with
 | none=>n
 | some e=>f e
mutual
noncomputable def zo (C:SC):Ex→Expr→Bool
 | .lit v,x=>zs6 x fun c=>zx3 v c
 | .var i,x=>zc3 x fun n=>C.is i n
 | .bin op a b,x=>z6y x fun l o r=>op==o&&(zo C a l&&zo C b r)
 | .neg a,x=>z7v x fun o y=>o== .USub&&zo C a y
 | .not a,x=>z7v x fun o y=>o== .Not&&zo C a y
 | .ite c a b,x=>z84 x fun t y z=>zo C c t&&(zo C a y&&zo C b z)
 | .list es,x=>zz1 x fun xs=>decide (xs.length<1000)&&zz C es xs
 | .tup es,x=>isTup x fun xs=>decide (xs.length<1000)&&zz C es xs
 | .cmp a ops es,x=>z57 x fun l os cs=>ops==os&&(zo C a l&&zz C es cs)
 | .band es,x=>ztq x fun o xs=>o== .And&&zz C es xs
 | .bor es,x=>ztq x fun o xs=>o== .Or&&zz C es xs
 | .idx a i,x=>zms x fun v s=>zo C a v&&zo C i s
 | .slc a lo hi st,x=>zms x fun v s=>zjn s fun l u k=>zo C a v&&(zyh (zf3 lo) (fun e=>zo C lo e) l&&(zyh (zf3 hi) (fun e=>zo C hi e) u&&zyh (zf3 st) (fun e=>zo C st e) k))
 | .attr o n,x=>zis x fun v y _=>Str.ofString n==y&&(zbu v&&zo C o v)
 | .bi b args,x=>zgl x fun f xs k _=>zc3 f fun f=>k.isEmpty&&(C.glob b.name f&&zz C args xs)
 | .call n args,x=>zgl x fun f xs k _=>zc3 f fun f=>k.isEmpty&&(C.fns.contains n&&(C.glob n f&&zz C args xs))
 | .me o m args,x=>zgl x fun f xs k p=>zis f fun v y q=>k.isEmpty&&(Str.ofString m.name==y&&(q.endLine==p.line&&(decide (xs.length<20)&&(zbu v&&(zo C o v&&zz C args xs)))))
 | .imeth o n args,x=>C.meths.contains n&&zgl x fun f xs k p=>zis f fun v y q=>k.isEmpty&&(Str.ofString n==y&&(q.endLine==p.line&&(decide (xs.length<20)&&(zbu v&&(zo C o v&&zz C args xs)))))
 | .lcall i args,x=>zgl x fun f xs k _=>zc3 f fun y=>k.isEmpty&&(C.is i y&&zz C args xs)
 | .comp elt one is it cs n caps,x=>z7i x fun e gs sc=>z7a gs fun t i ifs=>zT i&&(zo C it i&&(zgk C sc n caps&&(zav (zC C sc) one is t&&(zz (zC C sc) cs ifs&&zo (zC C sc) elt e))))
 | .comp2 elt one is it iti j n caps,x=>z7i x fun e gs sc=>z78 gs fun t i t' i'=>zT i&&(zT i'&&(zo C it i&&(zgk C sc n caps&&(zav (zC C sc) one is t&&(zav (zC C sc) true [j] t'&&(zo (zC C sc) iti i'&&zo (zC C sc) elt e))))))
noncomputable def zz (C:SC):List Ex→List Expr→Bool
 | [],xs=>xs.isEmpty
 | a::as,xs=>xs.head?.any fun e=>zT e&&zo C a e&&zz C as xs.tail
end
noncomputable def zny (C:SC) (a:Ex) (x:Option Expr):Bool:=zyh (zf3 a) (fun e=>zo C a e) x
theorem yM {C:SC}{a:Ex}{as:List Ex}{xs:List Expr} (h:zz C (a::as) xs=true): ∃e es,xs=e::es∧zT e=true∧zo C a e=true∧zz C as es=true:=by
 cases xs with
 | nil=>cases h
 | cons e es=>
  have h:(zT e&&zo C a e&&zz C as es)=true:=h
  rw[Bool.and_eq_true,Bool.and_eq_true] at h
  exact⟨e,es,rfl,h.1.1,h.1.2,h.2⟩
theorem za3 {C:SC}{xs:List Expr} (h:zz C [] xs=true):xs=[]:=by
 cases xs with
 | nil=>rfl
 | cons=>cases h
section
variable {C:SC}{x:Expr}{M:Expr→Prop}
@[elab_as_elim] theorem z01 {op:Operator} {a b:Ex} (h:zo C (.bin op a b) x=true) (k: ∀l r p,zo C a l=true→zo C b r=true→M (.BinOp l op r p)):M x:=
 zwc (e:=x) (K:=fun l o r=>op==o&&(zo C a l&&zo C b r)) h fun l o r p q=>by
  obtain⟨q1,q2⟩:=zb q;cases beq_iff_eq.mp q1;exact k l r p (zb q2).1 (zb q2).2
@[elab_as_elim] theorem zt1 {a:Ex} (h:zo C (.neg a) x=true) (k: ∀y p,zo C a y=true→M (.UnaryOp .USub y p)):M x:=
 zzx (e:=x) (K:=fun o y=>o== .USub&&zo C a y) h fun o y p q=>by
  obtain⟨q1,q2⟩:=zb q;cases beq_iff_eq.mp q1;exact k y p q2
@[elab_as_elim] theorem zs7 {a:Ex} (h:zo C (.not a) x=true) (k: ∀y p,zo C a y=true→M (.UnaryOp .Not y p)):M x:=
 zzx (e:=x) (K:=fun o y=>o== .Not&&zo C a y) h fun o y p q=>by
  obtain⟨q1,q2⟩:=zb q;cases beq_iff_eq.mp q1;exact k y p q2
@[elab_as_elim] theorem zs1 {c a b:Ex} (h:zo C (.ite c a b) x=true) (k: ∀t y z p,zo C c t=true→zo C a y=true→zo C b z=true→M (.IfExp t y z p)):M x:=
 z4g (e:=x) (K:=fun t y z=>zo C c t&&(zo C a y&&zo C b z)) h fun t y z p q=>k t y z p (zb q).1 (zb (zb q).2).1 (zb (zb q).2).2
@[elab_as_elim] theorem zw7 {es:List Ex} (h:zo C (.list es) x=true) (k: ∀xs p,xs.length<1000→zz C es xs=true→M (.List xs p)):M x:=
 zp1 (e:=x) (K:=fun xs=>decide (xs.length<1000)&&zz C es xs) h fun xs p q=>k xs p (of_decide_eq_true (zb q).1) (zb q).2
@[elab_as_elim] theorem z2b {es:List Ex} (h:zo C (.tup es) x=true) (k: ∀xs n p,xs.length<1000→zz C es xs=true→M (.Tuple xs n p)):M x:=
 zlo (e:=x) (K:=fun xs=>decide (xs.length<1000)&&zz C es xs) h fun xs n p q=>k xs n p (of_decide_eq_true (zb q).1) (zb q).2
@[elab_as_elim] theorem zww {a:Ex} {ops:List CmpOp} {es:List Ex} (h:zo C (.cmp a ops es) x=true) (k: ∀l cs p,zo C a l=true→zz C es cs=true→M (.Compare l ops cs p)):M x:=
 z0r (e:=x) (K:=fun l os cs=>ops==os&&(zo C a l&&zz C es cs)) h fun l os cs p q=>by
  obtain⟨q1,q2⟩:=zb q;cases beq_iff_eq.mp q1;exact k l cs p (zb q2).1 (zb q2).2
@[elab_as_elim] theorem zpw {es:List Ex} (h:zo C (.band es) x=true) (k: ∀xs p,zz C es xs=true→M (.BoolOp .And xs p)):M x:=
 zpx (e:=x) (K:=fun o xs=>o== .And&&zz C es xs) h fun o y p q=>by
  obtain⟨q1,q2⟩:=zb q;cases beq_iff_eq.mp q1;exact k y p q2
@[elab_as_elim] theorem zvu {es:List Ex} (h:zo C (.bor es) x=true) (k: ∀xs p,zz C es xs=true→M (.BoolOp .Or xs p)):M x:=
 zpx (e:=x) (K:=fun o xs=>o== .Or&&zz C es xs) h fun o y p q=>by
  obtain⟨q1,q2⟩:=zb q;cases beq_iff_eq.mp q1;exact k y p q2
@[elab_as_elim] theorem z1f {a i:Ex} (h:zo C (.idx a i) x=true) (k: ∀v s p,zo C a v=true→zo C i s=true→M (.Subscript v s p)):M x:=
 zg9 (e:=x) (K:=fun v s=>zo C a v&&zo C i s) h fun v s p q=>k v s p (zb q).1 (zb q).2
@[elab_as_elim] theorem zw3 {o:Ex} {n:String} (h:zo C (.attr o n) x=true) (k: ∀v p,zbu v=true→zo C o v=true→M (.Attribute v (Str.ofString n) p)):M x:=
 zh4 (e:=x) (K:=fun v y _=>Str.ofString n==y&&(zbu v&&zo C o v)) h fun v y p q=>by
  obtain⟨q1,q2⟩:=zb q;cases beq_iff_eq.mp q1;exact k v p (zb q2).1 (zb q2).2
theorem zi3 {K:Str→List Expr→Bool} (h:(zgl x fun f xs k _=>zc3 f fun f=>k.isEmpty&&K f xs)=true) (k: ∀n q xs p,K n xs=true→M (.Call (.Name n q) xs [] p)):M x:=
 zk3 (e:=x) (K:=fun f xs k _=>zc3 f fun f=>k.isEmpty&&K f xs) h fun f xs kw p q=>
  zez (e:=f) (K:=fun f=>kw.isEmpty&&K f xs) (M:=fun f=>M (.Call f xs kw p)) q fun n q' q2=>by have q3:=(zb q2).2;cases List.isEmpty_iff.mp (zb q2).1;exact k n q' xs p q3
theorem zl0 {n:String}{o:Ex}{args:List Ex} (h:(zgl x fun f xs k p=>zis f fun v y q=>k.isEmpty&&(Str.ofString n==y&&(q.endLine==p.line&&(decide (xs.length<20)&&(zbu v&&(zo C o v&&zz C args xs))))))=true)
  (k: ∀v q xs p,q.endLine=p.line→xs.length<20→zbu v=true→zo C o v=true→zz C args xs=true→M (.Call (.Attribute v (Str.ofString n) q) xs [] p)):M x:=
 zk3 (e:=x) (K:=fun f xs k p=>zis f fun v y q=>k.isEmpty&&(Str.ofString n==y&&(q.endLine==p.line&&(decide (xs.length<20)&&(zbu v&&(zo C o v&&zz C args xs)))))) h fun f xs kw p q=>
  zh4 (e:=f) (K:=fun v y q=>kw.isEmpty&&(Str.ofString n==y&&(q.endLine==p.line&&(decide (xs.length<20)&&(zbu v&&(zo C o v&&zz C args xs)))))) (M:=fun f=>M (.Call f xs kw p)) q fun v y q' q=>by
   obtain⟨q1,q⟩:=zb q
   obtain⟨q2,q⟩:=zb q
   obtain⟨q3,q⟩:=zb q
   obtain⟨q4,q⟩:=zb q
   obtain⟨q5,q⟩:=zb q
   obtain⟨q6,q7⟩:=zb q
   cases List.isEmpty_iff.mp q1;cases beq_iff_eq.mp q2
   exact k v q' xs p (beq_iff_eq.mp q3) (of_decide_eq_true q4) q5 q6 q7
end
theorem zew (a b:Tx):(mkS a++mkS b:Str)=mkS (a++b):=by
 show Str.append (mkS a) (mkS b)=_
 simp[Str.append,mkS]
theorem mkl (a:Tx):(mkS a).length=a.length:=by simp[Str.length]
theorem toNat_inj {a b:Char} (h:a.toNat=b.toNat):a=b:=by
 apply Char.ext;apply UInt32.toNat_inj.mp;exact h
theorem z1i {a b:Tx} (h:mkS a=mkS b):a=b:=by
 have h2:(a.map Char.toNat)=(b.map Char.toNat):=by
  have:=congrArg (fun x:Str=>x.cps.toList) h
  simpa using this
 exact(List.map_inj_right fun x y e=>toNat_inj e).mp h2
theorem zt9 (a b:Tx):(mkS a==mkS b)=decide (a=b):=by
 by_cases h:a=b
 ·subst h;simp
 ·simp only[h,decide_false]
  exact beq_eq_false_iff_ne.mpr fun e=>h (z1i e)
theorem z6i (a:Tx):PyData.strOk (mkS a)=true:=by
 rw[PyData.strOk,Array.all_eq_true_iff_forall_mem]
 intro n hn
 have hn':n∈a.map Char.toNat:=by simpa [mkS] using hn
 obtain⟨c,_,rfl⟩:=List.mem_map.mp hn'
 have:=c.valid
 simp only[decide_eq_true_eq]
 have h:c.toNat=c.val.toNat:=rfl
 rw[h]
 rcases this with h1 | h1
 ·exact ntr ‹_› (by decide)
 ·exact zw 5766737310398129695998607913 rfl h1.2
section
variable {G:GS}{A:Around}{Γ:FE}{frz:Frz}{σ:St}{s:Shared}{Q:V→Mem→Prop}
noncomputable def PO (G:GS) (Γ:FE) (frz:Frz) (σ:St) (s:Shared) (Q:V→Mem→Prop):Value→Shared→Prop:=
 fun cv s'=> ∃v m,RV s'.heap cv v∧Rep G Γ frz {σ with mem:=m} s'∧TK s.heap s'.heap∧Q v m
theorem PO.pure (r:Rep G Γ frz σ s) {cv:Value}{v:V}{tk:Nat} (h:RV s.heap cv v) (q:Q v σ.mem):PO G Γ frz σ s Q cv {s with toks:=tk}:=
 ⟨v,σ.mem,h,r.toks tk,.refl _,q⟩
theorem PO.here (r:Rep G Γ frz σ s) {cv:Value}{v:V} (h:RV s.heap cv v) (q:Q v σ.mem):PO G Γ frz σ s Q cv s:=
 ⟨v,σ.mem,h,r,.refl _,q⟩
theorem zax (h:Heap) (o:Obj): ∀b o',h.get? b=some o'→(h.push o).get? b=some o':=fun _ _ e=>Heap.get?_push_of_some o e
theorem PO.newList (r:Rep G Γ frz σ s) {arr:Array Value}{vs:List V}{tk:Nat} (h:RVs s.heap arr.toList vs) (q: ∀c,σ.mem c=none→Q (.obj c) (upd σ.mem c (.list vs))):
  PO G Γ frz σ s Q (.ref s.heap.objs.size) {s with heap:=s.heap.push {cls:= .type "list",data:= .seq arr},toks:=tk}:=by
 have k:=zax s.heap {cls:= .type "list",data:= .seq arr}
 refine⟨.obj s.heap.objs.size,_,.obj _,r.fresh (Nat.le_refl _) k (.list (Heap.get?_push_size _ rfl) (h.tk (.of k))),.of k,q _ (r.none_of_ge (Nat.le_refl _)).1⟩
theorem PO.newTup (r:Rep G Γ frz σ s) {arr:Array Value}{vs:List V}{tk:Nat} (h:RVs s.heap arr.toList vs) (q:Q (.tup vs) σ.mem):
  PO G Γ frz σ s Q (.ref s.heap.objs.size) {s with heap:=s.heap.push {cls:= .type "tuple",data:= .seq arr},toks:=tk}:=by
 have k:=zax s.heap {cls:= .type "tuple",data:= .seq arr}
 exact⟨.tup vs,_,.tup (Heap.get?_push_size _ rfl) (h.tk (.of k)),r.grow k,.of k,q⟩
theorem zbn {n:Nat} (h:sma n):n≤sizeLine:=by unfold sma at h;rw[sizeLine_eq];exact ntr ‹_› (by decide)
theorem zyo {a b:Int} (h:tiny a):IntMulOk a b:=by
 refine IntMulOk.of_left ?_
 unfold tiny at h
 unfold Builtin.Int.intBits
 have h2:a.natAbs<2 ^ 63:=by omega
 by_cases h0:a.natAbs=0
 ·have h1:a=0:=by(clear h2;lia)
  subst h1;decide
 ·have:=Nat.log2_lt (n:=a.natAbs) (k:=63) h0
  have h3:=this.mpr h2
  split<;>lia
theorem zmx {α:Type} (x:α): ∀(n:Nat) (acc:Array α),(List.foldl (fun x1 x2=>x1++x2) acc (List.replicate n #[x])).toList=acc.toList++List.replicate n x
 | 0,acc=>by simp
 | n+1,acc=>by rw[List.replicate_succ,List.foldl_cons,zmx x n];simp[List.replicate_succ]
theorem RVs.rep {h:Heap}{v:Value}{x:V} (a:RV h v x): ∀n:Nat,RVs h (List.replicate n v) (List.replicate n x)
 | 0=> .nil
 | n+1=> .cons a (RVs.rep a n)
theorem zxw {a b:Int} (h:0<b):a.fdiv b=a/b:=by rw[Int.fdiv_eq_ediv_of_nonneg];exact zsc 550158532641 rfl h
theorem zya {a b:Int} (h:0<b):a.fmod b=a%b:=by rw[Int.fmod_eq_emod_of_nonneg];exact zsc 550158532641 rfl h
theorem zhx {v u:V}{cv cu:Value}{K:Int→Int→Prop}{M:Value→Value→Prop} (h:zpv v u K) (hv:RV s.heap cv v) (hu:RV s.heap cu u) (q: ∀a b t t',K a b→M (.int a t) (.int b t')):M cv cu:=by
 obtain⟨a,rfl,h1⟩:=zb0 h
 obtain⟨b,rfl,h2⟩:=zb0 h1
 exact hv.eI fun _=>hu.eI fun _=>q _ _ _ _ h2
theorem z75 {a b:Tx}{t u:Tok} (h:sma a.length∧sma b.length∧Q (.str (a++b)) σ.mem) (r:Rep G Γ frz σ s):
  wpAny (model G.prog G.w) A (binaryOp .Add (.str (mkS a) t) (.str (mkS b) u)) (PO G Γ frz σ s Q) NoE s:=
 add_str (fun t' tk=>by rw[zew];exact PO.pure r (.str _ _) h.2.2) (by rw[mkl,mkl,sizeLine_eq];exact ntr (Nat.add_le_add h.1 h.2.1) (by decide))
theorem b_cc {a b:Addr} (h: ∃xs ys,σ.mem a=some (.list xs)∧σ.mem b=some (.list ys)∧sma xs.length∧sma ys.length∧∀c,σ.mem c=none→Q (.obj c) (upd σ.mem c (.list (xs++ys)))) (r:Rep G Γ frz σ s):
  wpAny (model G.prog G.w) A (binaryOp .Add (.ref a) (.ref b)) (PO G Γ frz σ s Q) NoE s:=by
 refine bc fun z9=>?_
 obtain⟨xs,ys,e1,e2,h1,h2,h3⟩:=h
 refine z9 ?_
 refine bc fun z9=>?_
 obtain⟨p,_,g1,r1,l1⟩:=(r.hmem _ _ e1).l
 refine z9 ?_
 refine bc fun z9=>?_
 obtain⟨q,_,g2,r2,l2⟩:=(r.hmem _ _ e2).l
 refine z9 ?_
 exact concat_meets ⟨_,g1,rfl⟩ ⟨_,g2,rfl⟩ noFill_list_add seq_list_add F.slot_list_add F.entry_list_add (F.args_list_add_2 _ _)
   (list_addW _ _ _ _ _ _ _ _ _ _ (by rw[l1,l2,sizeLine_eq];exact ntr (Nat.add_le_add h1 h2) (by decide))) ⟨g1,g2,PO.newList r (by rw[Array.toList_append];exact r1.append r2) h3⟩
theorem z1p {h:Heap}{arr:Array Value}{x:V} (r:RVs h arr.toList [x]): ∃y,arr=#[y]∧RV h y x:=by
 obtain⟨y,e,q⟩: ∃y,arr.toList=[y]∧RV h y x:=RVs.e1 (N:=fun l=> ∃y,l=[y]∧RV h y x) r fun c q=>⟨c,rfl,q⟩
 exact⟨y,by rw[←Array.toArray_toList (xs:=arr),e],q⟩
theorem z77 {a:Addr}{k:Int}{u:Tok} (h: ∃x,σ.mem a=some (.list [x])∧tiny k∧sma k.toNat∧∀c,σ.mem c=none→Q (.obj c) (upd σ.mem c (.list (List.replicate k.toNat x)))) (r:Rep G Γ frz σ s):
  wpAny (model G.prog G.w) A (binaryOp .Mult (.ref a) (.int k u)) (PO G Γ frz σ s Q) NoE s:=by
 obtain⟨x,e1,h1,h2,h3⟩:=h
 obtain⟨arr,_,g1,r1,_⟩:=(r.hmem _ _ e1).l
 obtain⟨y,rfl,ry⟩:=z1p r1
 unfold tiny at h1
 unfold sma at h2
 refine wpAny_binaryOp_repeat_ref (T:="list") (U:="int") (by decide) ⟨_,g1,rfl⟩ (fun s'=>typeIs_int s' _ _) noFill_list_mul F.fills_int_mul F.slot_int_rmul repeat_list F.slot_int_index.lookup
  (call_meets F.slot_int_rmul (typeIs_int s _ _) F.entry_int_rmul (F.args_int_rmul_2 _ _) (int___rmul___int_list _ _ _ _ _)
   ⟨g1,rfl,⟨_,g1,rfl⟩,call_meets F.slot_list_mul ⟨_,g1,rfl⟩ F.entry_list_mul (F.args_list_mul_2 _ _)
    (AutoListH.list___mul___list_int_3 _ _ _ _ _ (by simp[Builtin.List.listFitsIndex];exact⟨zsc 51249990749070328998342548067711117079018253585441 rfl h1.1,zsc 8963876708962871231649266813126766511608500847137 rfl h1.2⟩) (by have:(#[y]:Array Value).size=1:=rfl;rw[this];lia) (by simp[Builtin.List.listTooLong,sizeLine];exact zbm 32610393493954286520319245559336534568 rfl h2 (Int.self_le_toNat _))) ⟨g1,?_⟩⟩)
 refine PO.newList r ?_ h3
 rw[if_neg (by simp),zmx]
 exact RVs.rep ry _
theorem z8f {v u:V}{cv cu:Value} (h:z86 σ.mem v u Q) (r:Rep G Γ frz σ s) (hv:RV s.heap cv v) (hu:RV s.heap cu u):wpAny (model G.prog G.w) A (binaryOp .Add cv cu) (PO G Γ frz σ s Q) NoE s:=by
 cases v<;>first | exact False.elim h | skip
 ·obtain⟨b,rfl,h⟩:=zb0 h
  exact hv.eI fun _=>hu.eI fun _=>add_int (PO.pure r (.int _ _) h)
 ·obtain⟨b,rfl,h⟩:=zab h
  exact hv.eS fun _=>hu.eS fun _=>z75 h r
 ·obtain⟨b,rfl,h⟩:=zcl h
  exact hv.eO (hu.eO (b_cc h r))
theorem z8u {v u:V}{cv cu:Value} (h:z9g σ.mem v u Q) (r:Rep G Γ frz σ s) (hv:RV s.heap cv v) (hu:RV s.heap cu u):wpAny (model G.prog G.w) A (binaryOp .Mult cv cu) (PO G Γ frz σ s Q) NoE s:=by
 cases v<;>first | exact False.elim h | skip
 ·obtain⟨b,rfl,h⟩:=zb0 h
  exact hv.eI fun _=>hu.eI fun _=>PyProof.Rows.mul_int (PO.pure r (.int _ _) h.2) (zyo h.1)
 ·obtain⟨b,rfl,h⟩:=zb0 h
  exact hv.eO (hu.eI fun _=>z77 h r)
theorem z76 {a b:Int}{t u:Tok} (h:0<b∧Q (.int (a%b)) σ.mem) (r:Rep G Γ frz σ s):wpAny (model G.prog G.w) A (binaryOp .Mod (.int a t) (.int b u)) (PO G Γ frz σ s Q) NoE s:=
 mod_int' (Int.ne_of_gt h.1) (by rw[zya h.1];exact PO.pure r (.int _ _) h.2)
theorem z8r {a b:Int}{t u:Tok} (h:0<b∧tiny b∧Q (.int (a/b)) σ.mem) (r:Rep G Γ frz σ s):wpAny (model G.prog G.w) A (binaryOp .FloorDiv (.int a t) (.int b u)) (PO G Γ frz σ s Q) NoE s:=
 floordiv_int (Int.ne_of_gt h.1) (by rw[zxw h.1];exact PO.pure r (.int _ _) h.2.2) (.inl (PyProof.noPylong_small (by have:=h.2.1;have:=h.1;unfold tiny at *;omega)))
theorem z7z {op:Operator}{v u:V}{cv cu:Value} (h:zik σ.mem op v u Q) (r:Rep G Γ frz σ s) (hv:RV s.heap cv v) (hu:RV s.heap cu u):
  wpAny (model G.prog G.w) A (binaryOp op cv cu) (PO G Γ frz σ s Q) NoE s:=by
 cases op<;>first | exact False.elim h | skip
 ·exact z8f h r hv hu
 ·exact zhx (M:=fun cv cu=>wpAny (model G.prog G.w) A (binaryOp .Sub cv cu) (PO G Γ frz σ s Q) NoE s) h hv hu fun _ _ _ _ h=>sub_int' (PO.pure r (.int _ _) h)
 ·exact z8u h r hv hu
 ·exact zhx (M:=fun cv cu=>wpAny (model G.prog G.w) A (binaryOp .Mod cv cu) (PO G Γ frz σ s Q) NoE s) h hv hu fun _ _ _ _ h=>z76 h r
 ·exact zhx (M:=fun cv cu=>wpAny (model G.prog G.w) A (binaryOp .FloorDiv cv cu) (PO G Γ frz σ s Q) NoE s) h hv hu fun _ _ _ _ h=>z8r h r
theorem zmt {m:Mem}{h:Heap}{n:Nat} (ih: ∀{cv:Value}{v:V}{d:PyData},rd n m v=some d→RV h cv v→∃as,Reads h cv d as) {cs:List Value}{vs:List V} (r:RVs h cs vs): ∀{ds:List PyData},vs.mapM (rd n m)=some ds→∃as,ReadsAll h cs ds as:=by
 refine RVs.ind (N:=fun cs vs=> ∀{ds:List PyData},vs.mapM (rd n m)=some ds→∃as,ReadsAll h cs ds as) ?_ ?_ r
 ·intro ds e;cases e;exact⟨_,.nil⟩
 ·intro v x vs xs a b hi ds e
  rw[List.mapM_cons] at e
  cases q:rd n m x with
  | none=>rw[q] at e;cases e
  | some d=>
   rw[q] at e
   cases q2:xs.mapM (rd n m) with
   | none=>rw[q2] at e;cases e
   | some ds'=>
    rw[q2] at e
    cases e
    obtain⟨as,p⟩:=ih q a
    obtain⟨bs,p2⟩:=hi q2
    exact⟨_,.cons p p2⟩
theorem zbw {h:Heap}{cv:Value}{v:V}{d:PyData} (e:rd0 v=some d) (r:RV h cv v): ∃as,Reads h cv d as:=by
 cases v<;>first | cases e
 ·exact r.eN ⟨_,.none⟩
 ·exact r.eB ⟨_,.bool _⟩
 ·exact r.eI fun _=>⟨_,.int _ _⟩
 ·exact r.eS fun _=>⟨_,.str _ _⟩
theorem zsj {m:Mem}{a:Addr}{vs:List V} (e:listAt m a=some vs):m a=some (.list vs):=by
 obtain⟨o,e1,e2⟩:=Option.bind_eq_some_iff.mp e
 cases o<;>cases e2
 exact e1
theorem zz2 {n:Nat}{m:Mem}{a:Addr}{vs:List V} (h:m a=some (.list vs)):rd (n+1) m (.obj a)=(vs.mapM (rd n m)).map .list:=by
 show((m a).bind _).bind _=_
 rw[h];rfl
theorem zb8 {m:Mem}{h:Heap} (hm: ∀a o,m a=some o→RO h a o): ∀(n:Nat) {cv:Value}{v:V}{d:PyData},rd n m v=some d→RV h cv v→∃as,Reads h cv d as
 | 0,_,_,_,e,r=>zbw e r
 | n+1,_,.tup _,_,e,r=>by
  obtain⟨ds,q,rfl⟩:=Option.map_eq_some_iff.mp e
  exact r.eT fun _ _ _ g rs=>let ⟨as,p⟩:=zmt (zb8 hm n) rs q;⟨as,.tuple g rfl rfl p⟩
 | n+1,_,.obj _,_,e,r=>by
  obtain⟨vs,e1,e⟩:=Option.bind_eq_some_iff.mp e
  obtain⟨ds,q,rfl⟩:=Option.map_eq_some_iff.mp e
  obtain⟨_,_,g,rs,_⟩:=(hm _ _ (zsj e1)).l
  exact r.eO (let ⟨as,p⟩:=zmt (zb8 hm n) rs q;⟨_,.list g rfl rfl p⟩)
 | n+1,_,.none,_,e,r=>zbw (v:= .none) e r
 | n+1,_,.bool _,_,e,r=>zbw (v:= .bool _) e r
 | n+1,_,.int _,_,e,r=>zbw (v:= .int _) e r
 | n+1,_,.str _,_,e,r=>zbw (v:= .str _) e r
 | n+1,_,.flt _,_,e,r=>zbw (v:= .flt _) e r
 | n+1,_,.rng ..,_,e,r=>zbw (v:= .rng _ _ _) e r
theorem zf1 {v:V}{d:PyData} (e:rd0 v=some d):d.canLay0=true∧d.depth=0:=by
 cases v<;>first | cases e
 ·exact⟨rfl,rfl⟩
 ·exact⟨rfl,rfl⟩
 ·exact⟨rfl,rfl⟩
 ·exact⟨z6i _,rfl⟩
theorem zkw {n:Nat}{v:V}{d:PyData} (e:rd0 v=some d):d.canLay0=true∧d.depth≤n:=⟨(zf1 e).1,ntr (Nat.le_of_eq (zf1 e).2) (Nat.zero_le _)⟩
theorem ziz {m:Mem}{n:Nat} (ih: ∀{v:V}{d:PyData},rd n m v=some d→d.canLay0=true∧d.depth≤n): ∀(vs:List V) {ds:List PyData},vs.mapM (rd n m)=some ds→PyData.canLayAll0 ds=true∧PyData.depthAll ds≤n
 | [],ds,e=>by cases e;exact⟨rfl,Nat.zero_le _⟩
 | v::vs,ds,e=>by
  rw[List.mapM_cons] at e
  obtain⟨d,e1,e⟩:=Option.bind_eq_some_iff.mp e
  obtain⟨ds',e2,e⟩:=Option.bind_eq_some_iff.mp e
  cases e
  have p:=ih e1
  have q:=ziz ih vs e2
  exact⟨(Bool.and_eq_true _ _).mpr ⟨p.1,q.1⟩,Nat.max_le.mpr ⟨p.2,q.2⟩⟩
theorem zbh {m:Mem}: ∀(n:Nat) {v:V}{d:PyData},rd n m v=some d→d.canLay0=true∧d.depth≤n
 | 0,_,_,e=>⟨(zf1 e).1,Nat.le_of_eq (zf1 e).2⟩
 | n+1,.tup vs,_,e=>by
  obtain⟨ds,q,rfl⟩:=Option.map_eq_some_iff.mp e
  have p:=ziz (zbh n) vs q
  exact⟨p.1,Nat.succ_le_succ p.2⟩
 | n+1,.obj a,_,e=>by
  obtain⟨vs,e1,e⟩:=Option.bind_eq_some_iff.mp e
  obtain⟨ds,q,rfl⟩:=Option.map_eq_some_iff.mp e
  have p:=ziz (zbh n) vs q
  exact⟨p.1,Nat.succ_le_succ p.2⟩
 | n+1,.none,_,e=>zkw (v:= .none) e
 | n+1,.bool _,_,e=>zkw (v:= .bool _) e
 | n+1,.int _,_,e=>zkw (v:= .int _) e
 | n+1,.str _,_,e=>zkw (v:= .str _) e
 | n+1,.flt x,_,e=>zkw (v:= .flt x) e
 | n+1,.rng x y z,_,e=>zkw (v:= .rng x y z) e
theorem zfy {m:Mem}{v:V}{d:PyData} (e:rd 8 m v=some d):SeqAt.shaped d=true:=by
 have:=zbh 8 e
 unfold SeqAt.shaped
 rw[this.1,Bool.true_and]
 exact decide_eq_true (ntr this.2 (by decide))
noncomputable def PQ (G:GS) (Γ:FE) (frz:Frz) (σ:St) (s:Shared) (Q:Bool→Prop):Value→Shared→Prop:=
 fun cv s'=> ∃b,cv= .bool b∧Rep G Γ frz σ s'∧TK s.heap s'.heap∧Q b
noncomputable def PT (G:GS) (Γ:FE) (frz:Frz) (σ:St) (s:Shared) (Q:Bool→Prop):Bool→Shared→Prop:=
 fun b s'=>Rep G Γ frz σ s'∧TK s.heap s'.heap∧Q b
noncomputable def zog (A:Around):Prop:=A.units+64<cLine
theorem z5l {v u:V}{cv cu:Value}{K:Bool→Prop}{ne:Bool}{Q:Bool→Prop} (hu':zog A) (h:zt5 σ.mem v u fun t=>Q (if ne then !t else t)) (r:Rep G Γ frz σ s) (hv:RV s.heap cv v) (hu:RV s.heap cu u):
  wpAny (model G.prog G.w) A (compareOp (if ne then .NotEq else .Eq) cv cu) (PQ G Γ frz σ s Q) NoE s:=by
 obtain⟨d,e,h1,h2,h3⟩:=h
 obtain⟨as,ra⟩:=zb8 r.hmem 8 h1 hv
 obtain⟨bs,rb⟩:=zb8 r.hmem 8 h2 hu
 cases ne with
 | false=>exact eq_dataH ra rb (zfy h1) (zfy h2) hu' ⟨_,rfl,r,.refl _,h3⟩
 | true=>exact ne_dataH ra rb (zfy h1) (zfy h2) hu' ⟨_,rfl,r,.refl _,h3⟩
theorem zl7 {m:Mem}{a b:V}{K:Bool→Prop} (h:zui m a b K):(∃x y,a= .int x∧b= .int y∧K (decide (x=y)))∨(∃x y,a= .str x∧b= .str y∧K (decide (x=y)))∨zt5 m a b K:=by
 cases a<;>first
  | exact .inr (.inr h)
  | (cases b<;>first | exact .inr (.inr h) | exact .inl ⟨_,_,rfl,rfl,h⟩ | exact .inr (.inl ⟨_,_,rfl,rfl,h⟩))
theorem zlm {ds:List PyData}{d:PyData} (hu':zog A) (h:d.depth≤7):A.units+1+min (PyData.depthAll ds) d.depth<cLine:=by
 have:=Nat.min_le_right (PyData.depthAll ds) d.depth
 unfold zog at hu';exact zP 97786533242336846280915888571932480553 rfl hu' h this
theorem z9f {v u:V}{cv cu:Value}{nt:Bool}{Q:Bool→Prop} (hu':zog A) (h:z1k σ.mem v u fun t=>Q (if nt then !t else t)) (r:Rep G Γ frz σ s) (hv:RV s.heap cv v) (hu:RV s.heap cu u):
  wpAny (model G.prog G.w) A (compareOp (if nt then .NotIn else .In) cv cu) (PQ G Γ frz σ s Q) NoE s:=by
 cases u with
 | tup vs=>
  obtain⟨d,ds,h1,h2,h3⟩:=h
  have h4:rd 8 σ.mem (.tup vs)=some (.tuple ds):=by show(vs.mapM (rd 7 σ.mem)).map PyData.tuple=_;rw[h2];rfl
  obtain⟨as,ra⟩:=zb8 r.hmem 7 h1 hv
  obtain⟨bs,rb⟩:=zb8 r.hmem 8 h4 hu
  have s1:=zbh 7 h1
  cases nt with
  | false=>exact SeqAt.in_tuple_reads rb ra (zbh 8 h4).1 s1.1 (zlm hu' s1.2) ⟨_,rfl,r,.refl _,h3⟩
  | true=>exact SeqAt.notIn_tuple_reads rb ra (zbh 8 h4).1 s1.1 (zlm hu' s1.2) ⟨_,rfl,r,.refl _,h3⟩
 | obj l=>
  obtain⟨vs,d,ds,hl,_,h1,h2,h3⟩:=h
  have h4:rd 8 σ.mem (.obj l)=some (.list ds):=by rw[zz2 hl,h2];rfl
  obtain⟨as,ra⟩:=zb8 r.hmem 7 h1 hv
  obtain⟨bs,rb⟩:=zb8 r.hmem 8 h4 hu
  have s1:=zbh 7 h1
  cases nt with
  | false=>exact SeqAt.in_list_reads rb ra (zbh 8 h4).1 s1.1 (zlm hu' s1.2) ⟨_,rfl,r,.refl _,h3⟩
  | true=>exact SeqAt.notIn_list_reads rb ra (zbh 8 h4).1 s1.1 (zlm hu' s1.2) ⟨_,rfl,r,.refl _,h3⟩
 | _=>exact h.elim
theorem zmv {a b:V}{K:Bool→Prop} (h:zux a b K):b= .none∧((a= .none∧K true)∨∃vs,a= .tup vs∧K false):=by
 cases b<;>first
  | exact False.elim h
  | (cases a<;>first | exact False.elim h | exact⟨rfl,.inl ⟨rfl,h⟩⟩ | exact⟨rfl,.inr ⟨_,rfl,h⟩⟩)
theorem PQ.of {Q:Bool→Prop} (r:Rep G Γ frz σ s) {b:Bool} (h:Q b):PQ G Γ frz σ s Q (.bool b) s:=⟨b,rfl,r,.refl _,h⟩
theorem z8i {v u:V}{cv cu:Value}{Q:Bool→Prop} (hu':zog A) (h:zui σ.mem v u Q) (r:Rep G Γ frz σ s) (hv:RV s.heap cv v) (hu:RV s.heap cu u):
  wpAny (model G.prog G.w) A (compareOp .Eq cv cu) (PQ G Γ frz σ s Q) NoE s:=by
 rcases zl7 h with ⟨x,y,rfl,rfl,h⟩ | ⟨x,y,rfl,rfl,h⟩ | h
 ·exact hv.eI fun _=>hu.eI fun _=>eq_int (.of r h)
 ·exact hv.eS fun _=>hu.eS fun _=>eq_str (.of r ((zt9 _ _).symm▸h))
 ·exact z5l (ne:=false) (K:=Q) hu' h r hv hu
theorem z79 {v u:V}{cv cu:Value}{Q:Bool→Prop} (hu':zog A) (h:zui σ.mem v u fun t=>Q (!t)) (r:Rep G Γ frz σ s) (hv:RV s.heap cv v) (hu:RV s.heap cu u):
  wpAny (model G.prog G.w) A (compareOp .NotEq cv cu) (PQ G Γ frz σ s Q) NoE s:=by
 rcases zl7 (K:=fun t=>Q (!t)) h with ⟨x,y,rfl,rfl,h⟩ | ⟨x,y,rfl,rfl,h⟩ | h
 ·exact hv.eI fun _=>hu.eI fun _=>ne_int (.of r h)
 ·exact hv.eS fun _=>hu.eS fun _=>ne_str (.of r (by rw[bne,zt9];exact h))
 ·exact z5l (ne:=true) (K:=Q) hu' h r hv hu
theorem z7o {v u:V}{cv cu:Value}{Q:Bool→Prop} (h:zux v u Q) (r:Rep G Γ frz σ s) (hv:RV s.heap cv v) (hu:RV s.heap cu u):
  wpAny (model G.prog G.w) A (compareOp .Is cv cu) (PQ G Γ frz σ s Q) NoE s:=by
 obtain⟨rfl,⟨rfl,h⟩ | ⟨vs,rfl,h⟩⟩:=zmv h
 ·exact hv.eN (hu.eN (is_none_none (.of r h)))
 ·exact hv.eT fun _ _ _ _ _=>hu.eN (is_none_ne (fun e=>nomatch e) (.of r h))
theorem z3s {v u:V}{cv cu:Value}{Q:Bool→Prop} (h:zux v u fun t=>Q (!t)) (r:Rep G Γ frz σ s) (hv:RV s.heap cv v) (hu:RV s.heap cu u):
  wpAny (model G.prog G.w) A (compareOp .IsNot cv cu) (PQ G Γ frz σ s Q) NoE s:=by
 obtain⟨rfl,⟨rfl,h⟩ | ⟨vs,rfl,h⟩⟩:=zmv (K:=fun t=>Q (!t)) h
 ·exact hv.eN (hu.eN (isnot_none_none (.of r h)))
 ·exact hv.eT fun _ _ _ _ _=>hu.eN (isnot_none_ne (fun e=>nomatch e) (.of r h))
theorem z1h {op:CmpOp}{v u:V}{cv cu:Value}{Q:Bool→Prop} (hu':zog A) (h:zck σ.mem op v u Q) (r:Rep G Γ frz σ s) (hv:RV s.heap cv v) (hu:RV s.heap cu u):
  wpAny (model G.prog G.w) A (compareOp op cv cu) (PQ G Γ frz σ s Q) NoE s:=
 match op,h with
 | .Eq,h=>z8i hu' h r hv hu
 | .NotEq,h=>z79 hu' h r hv hu
 | .Lt,h=>zhx (M:=fun cv cu=>wpAny (model G.prog G.w) A (compareOp .Lt cv cu) (PQ G Γ frz σ s Q) NoE s) h hv hu fun _ _ _ _ h=>lt_int (.of r h)
 | .LtE,h=>zhx (M:=fun cv cu=>wpAny (model G.prog G.w) A (compareOp .LtE cv cu) (PQ G Γ frz σ s Q) NoE s) h hv hu fun _ _ _ _ h=>le_int (.of r h)
 | .Gt,h=>zhx (M:=fun cv cu=>wpAny (model G.prog G.w) A (compareOp .Gt cv cu) (PQ G Γ frz σ s Q) NoE s) h hv hu fun _ _ _ _ h=>gt_int (.of r h)
 | .GtE,h=>zhx (M:=fun cv cu=>wpAny (model G.prog G.w) A (compareOp .GtE cv cu) (PQ G Γ frz σ s Q) NoE s) h hv hu fun _ _ _ _ h=>ge_int (.of r h)
 | .Is,h=>z7o h r hv hu
 | .IsNot,h=>z3s h r hv hu
 | .In,h=>z9f (nt:=false) hu' h r hv hu
 | .NotIn,h=>z9f (nt:=true) hu' h r hv hu
theorem zha {n:Nat} (h:sma n):(n:Int)<2 ^ 63:=by unfold sma at h;lia
theorem zke {arr:Array Value}{vs:List V} (e:arr.size=vs.length):arr.isEmpty=vs.isEmpty:=by
 unfold Array.isEmpty
 cases vs with
 | nil=>simp at e;simp[e]
 | cons v vs=>simp at e;simp[e]
theorem z47 {α:Type} (x:List α):((x.length:Int) !=0)=!x.isEmpty:=by
 cases x with
 | nil=>rfl
 | cons a r=>simp only[List.length_cons,List.isEmpty_cons,Bool.not_false,bne_iff_ne,ne_eq];grind
theorem zoy {v:V}{cv:Value}{Q:Bool→Prop} (h:zK σ.mem v Q) (r:Rep G Γ frz σ s) (hv:RV s.heap cv v):
  wpAny (model G.prog G.w) A (truthy cv) (PT G Γ frz σ s Q) NoE s:=by
 cases v<;>first | exact False.elim h | skip
 ·exact hv.eN (truthy_none ⟨r,.refl _,h⟩)
 ·exact hv.eB (wpAny_truthy_bool ⟨r,.refl _,h⟩)
 ·exact hv.eI fun _=>PyProof.Rows.truthy_int ⟨r,.refl _,h⟩
 ·exact hv.eS fun _=>P.truthy_str (by rw[mkl];exact Int.not_le.mpr (zha h.1)) ⟨r.toks _,.refl _,by rw[mkl,z47];exact h.2⟩
 ·exact hv.eT fun _ _ _ g rs=>have e:=rs.length.symm.trans (Array.length_toList ..);truthy_tuple ⟨_,g,rfl,_,rfl⟩ (by rw[←e];exact zha h.1) ⟨r.toks _,.refl _,by rw[zke e.symm];exact h.2⟩
 ·refine bc fun z9=>?_
  obtain⟨vs,h0,h1,h2⟩:=h
  refine z9 ?_
  refine bc fun z9=>?_
  obtain⟨_,_,g,rs,e⟩:=(r.hmem _ _ h0).l
  refine z9 ?_
  exact hv.eO (wpAny_truthy_list ⟨_,g,rfl,_,rfl⟩ (by rw[e];exact zha h1) ⟨r.toks _,.refl _,by rw[zke e];exact h2⟩)
theorem znt {prog:Program}{w:World}{A:Around}{E:Value→Shared→Prop}{s:Shared}{value slice:Expr}{o i:Value}{T id:String}{Q:Value→Shared→Prop} (hT:s.TypeIs o T)
  (hl:typeLookup (.type T) "__getitem__"=pure (some (.builtin id))) (h:wpAny (model prog w) A (getItem o i) Q E s):
  wpAny (model prog w) A (subscriptTail value slice o i) Q E s:=by
 unfold subscriptTail
 refine wpAny_bind ?_
 rw[getitemInPython_of_ne hT.not_modules]
 refine wpAny_bind (wpAny_specialOf hT hl ?_)
 have fin: ∃ops,subscripted slice false o i=operate ops (getItem o i):=by
  cases slice<;>first | exact⟨_,rfl⟩ | skip
  rename_i st _
  cases st<;>exact⟨_,rfl⟩
 obtain⟨ops,e⟩:=fin
 refine wpAny_pure ?_
 rw[e]
 exact wpAny_bind (wpAny_operating (wpAny_mono h (fun r s₃ h₃=>wpAny_bind (wpAny_letTemporaryGo (wpAny_pure h₃))) fun _ _ x=>x))
theorem zid {k:Int} (h:tiny k):Builtin.List.listFitsIndex k=true:=by
 unfold tiny at h
 unfold Builtin.List.listFitsIndex
 simp only[Bool.and_eq_true,decide_eq_true_eq]
 lia
theorem zfg {k:Int}{n j:Nat} (h:seqIndex? k n=some j):j<n∧(0≤k→j=k.toNat):=by
 unfold seqIndex? at h
 dsimp only at h
 by_cases h0:k<0
 ·rw[if_pos h0] at h
  split at h
  ·rename_i c
   have:=Option.some.inj h
   simp only[Bool.and_eq_true,decide_eq_true_eq] at c
   lia
  ·exact(Option.some_ne_none _ h.symm).elim
 ·rw[if_neg h0] at h
  split at h
  ·rename_i c
   have:=Option.some.inj h
   simp only[Bool.and_eq_true,decide_eq_true_eq] at c
   (clear h0;omega)
  ·exact(Option.some_ne_none _ h.symm).elim
theorem zhv {prog:Program}{w:World}{A:Around}{E:Value→Shared→Prop}{s:Shared}{l:Addr}{items:Array Value}{k:Int}{t:Tok}{j:Nat}{x:Value}{Q:Value→Shared→Prop} (hl:s.heap.IsList l items)
  (hk:tiny k) (hj:seqIndex? k items.size=some j) (hx:items[j]? =some x) (h:Q x s):wpAny (model prog w) A (getItem (.ref l) (.int k t)) Q E s:=by
 by_cases h0:0≤k
 ·have:=(zfg hj).2 h0
  subst this
  exact wpAny_getItem_list hl h0 (by unfold tiny at hk;lia) hx h
 ·obtain⟨o,ho,hc,ne,hd⟩:=id hl
  unfold getItem
  try with_reducible refine wpAny_holding ?_
  first | refine wpAny_bind (wpAny_pure ?_) | skip
  refine wpAny_bind (wpAny_sequenceKey hl.typeIs (by decide) ?_)
  refine wpAny_bind (wpAny_callSpecial?_slot (name:=Str.ofString "__getitem__") hl.typeIs slot_list_getitem
   (wpAny_call_entry slot_list_getitem hl.typeIs entry_list_getitem ?_ (args_list_getitem _ _)))
  show wpAny _ _ (Builtin.List.listSubscript? (.int k t) >>=_) _ _ s
  refine wpAny_bind (wpAny_listSubscript_int (zid hk) ?_)
  obtain⟨m,rfl⟩: ∃m:Nat,k=Int.negSucc m:=⟨(-k-1).toNat,by grind⟩
  show wpAny _ _ ((Builtin.List.listItems (.ref l) >>=fun xs=>pure ((seqIndex? (Int.negSucc m) xs.size).bind fun j=>xs[j]?.map (j,·))) >>=_) _ _ s
  refine wpAny_bind (wpAny_bind (wpAny_listItems ho hd (wpAny_pure ?_)))
  rw[hj]
  simp only[Option.bind_some,hx,Option.map_some]
  first
   | exact wpAny_bind (wpAny_pure (wpAny_pure ⟨x,rfl,wpAny_pure h⟩))
   | exact wpAny_pure ⟨x,rfl,wpAny_pure h⟩
theorem z20 {α β:Type} (f:α→β) {xs:List α}{arr:Array β} (h:arr.toList=xs.map f) {j:Nat}{x:α} (e:xs[j]? =some x):arr[j]? =some (f x):=by
 rw[←Array.getElem?_toList,h,List.getElem?_map,e];rfl
theorem zm6 {α:Type}{xs:List α}{k:Int}{c:α} (e:zH xs k=some c): ∃j,seqIndex? k xs.length=some j∧xs[j]? =some c:=Option.bind_eq_some_iff.mp e
theorem z39 {h:Heap}{arr:Array Value}{vs:List V} (rs:RVs h arr.toList vs) {k:Int}{x:V} (e:zH vs k=some x): ∃j cx,seqIndex? k arr.size=some j∧arr[j]? =some cx∧RV h cx x:=by
 obtain⟨j,e1,e2⟩:=zm6 e
 obtain⟨cx,e3,e4⟩:=rs.get e2
 have l:=rs.length
 rw[Array.length_toList] at l
 exact⟨j,cx,by rw[l];exact e1,by rw[←Array.getElem?_toList];exact e3,e4⟩
theorem z8v {v u:V}{cv cu:Value}{value slice:Expr}{Q:V→Prop} (h:zju σ.mem v u Q) (r:Rep G Γ frz σ s) (hv:RV s.heap cv v) (hu:RV s.heap cu u):
  wpAny (model G.prog G.w) A (subscriptTail value slice cv cu) (PO G Γ frz σ s fun r m=>m=σ.mem∧Q r) NoE s:=by
 obtain⟨k,rfl,h⟩:=zb0 h
 cases v<;>first | exact False.elim h | skip
 ·obtain⟨ht,c,e,q⟩:=h
  obtain⟨j,e1,e2⟩:=zm6 e
  refine hv.eS fun _=>hu.eI fun _=>znt (typeIs_str s _ _) F.slot_str_getitem.lookup (P.getItem_str (c:=c.toNat) ?_ ?_ ⟨.str [c],σ.mem,.str [c] _,r.toks _,.refl _,rfl,q⟩)
  ·have:=ht.1;have:=ht.2
   rw[Bool.or_eq_false_iff,decide_eq_false_iff_not,decide_eq_false_iff_not];lia
  ·rw[mkl,e1];exact z20 Char.toNat (List.toList_toArray) e2
 ·obtain⟨ht,x,e,q⟩:=h
  refine hv.eT fun _ _ _ g rs=>hu.eI fun _=>?_
  obtain⟨j,cx,e1,e3,e4⟩:=z39 rs e
  exact znt ⟨_,g,rfl⟩ F.slot_tuple_getitem.lookup (PyProof.Rows.getItem_tuple (j:=j) (x:=cx) ⟨_,g,rfl,_,rfl⟩ (by have:=ht.1;lia) (by have:=ht.2;lia) e1 e3 ⟨x,σ.mem,e4,r,.refl _,rfl,q⟩)
 ·obtain⟨ht,vs,x,e0,e,q⟩:=h
  obtain⟨_,_,g,rs,_⟩:=(r.hmem _ _ e0).l
  obtain⟨j,cx,e1,e3,e4⟩:=z39 rs e
  exact hv.eO (hu.eI fun _=>znt ⟨_,g,rfl⟩ list_getitem_lookup (zhv (j:=j) (x:=cx) ⟨_,g,rfl,_,rfl⟩ ht e1 e3 ⟨x,σ.mem,e4,r,.refl _,rfl,q⟩))
theorem zo3 {α:Type} (xs:Array α) (lo hi:Option Int):(Builtin.Str.strSliceIndices lo hi 1 xs.size).filterMap (xs[·]?)=zcq xs.toList lo hi:=by
 have e:Builtin.Str.strSliceIndices lo hi 1 xs.size=sliceRange (sliceBounds lo hi none xs.size).1 (sliceBounds lo hi none xs.size).2.1 (sliceBounds lo hi none xs.size).2.2:=by
  cases lo<;>cases hi<;>rfl
 rw[e,sliceBounds_plain]
 simp only[sliceRange_one,pick_run]
 unfold zcq zfp zh3
 simp only[Array.length_toList]
 rfl
theorem zxj {α β:Type} (f:α→β) (xs:List α) (lo hi:Option Int):zcq (xs.map f) lo hi=(zcq xs lo hi).map f:=by
 unfold zcq;simp
theorem zyz {α:Type} (xs:List α) (lo hi:Option Int):(zcq xs lo hi).length≤xs.length:=by
 unfold zcq;simp;exact zf 42121604987949220392 rfl (Nat.sub_le _ _) (Nat.min_le_right _ _)
theorem zt3 {α:Type} (xs:List α) (lo hi:Option Int) (h:(zcq xs lo hi).length=xs.length):zcq xs lo hi=xs:=by
 unfold zcq at h ⊢
 rw[List.length_take,List.length_drop] at h
 generalize zfp xs.length lo=x at *
 generalize zh3 xs.length hi=y at *
 have a:=Nat.min_le_left (y-x) (xs.length-x)
 have b:=Nat.min_le_right (y-x) (xs.length-x)
 rw[h] at a b
 by_cases h0:xs=[]
 ·subst h0;rw[List.drop_nil,List.take_nil]
 ·have p:=List.length_pos_iff.mpr h0
  have hx:x=0:=by clear a h;lia
  subst hx
  rw[List.drop_zero,List.take_of_length_le a]
theorem z3q (n:Nat) (i:Int):z0c n i≤n:=by
 have:=clipAt_cast n i
 unfold z0c;omega
theorem z0u (n:Nat) (hi:Option Int):zh3 n hi≤n:=by
 cases hi with
 | none=>exact Nat.le_refl _
 | some i=>exact z3q n i
theorem zwa {α:Type} (lo hi:Option Int) (xs:List α):(Builtin.Str.strSliceIndices lo hi 1 xs.length).length=(zcq xs lo hi).length:=by
 have e:Builtin.Str.strSliceIndices lo hi 1 xs.length=sliceRange (sliceBounds lo hi none xs.length).1 (sliceBounds lo hi none xs.length).2.1 (sliceBounds lo hi none xs.length).2.2:=by
  cases lo<;>cases hi<;>rfl
 rw[e,sliceBounds_plain]
 simp only[sliceRange_one,List.length_map,List.length_range]
 unfold zcq
 rw[List.length_take,List.length_drop]
 have h1:=z0u xs.length hi
 show zh3 xs.length hi-zfp xs.length lo=_
 exact(Nat.min_eq_left (Nat.sub_le_sub_right h1 _)).symm
theorem zbz {h:Heap}{v:V}{cv:Value}{a:Option Int} (e:zf8 v=some a) (r:RV h cv v): ∃p:Option (Int×Tok),cv=partValue p∧p.map (·.1)=a∧IsPart cv a:=by
 cases v<;>cases e
 ·exact r.eN ⟨none,rfl,rfl,.none⟩
 ·exact r.eI fun _=>⟨some (_,_),rfl,rfl,.int _ _⟩
theorem zk5 {v:V}{K:Option Int→Prop} (h:slK v K): ∃a,zf8 v=some a∧K a:=by
 cases v<;>first | exact False.elim h | exact⟨_,rfl,h⟩
theorem z03 {v:V}{K:Option Int→Prop} (h:stK v K): ∃a,zf8 v=some a∧K a∧a≠some 0:=by
 cases v<;>first | exact False.elim h | skip
 ·exact⟨_,rfl,h,fun e=>nomatch e⟩
 ·exact⟨_,rfl,h.2,fun e=>absurd h.1 (by cases e;decide)⟩
noncomputable abbrev ziw (l u st:Value):Obj:={cls:= .type "slice",data:= .fields #[l,u,st]}
theorem RVs.pick {h:Heap}{vs:List Value}{xs:List V} (r:RVs h vs xs): ∀is:List Nat,RVs h (is.filterMap (vs[·]?)) (is.filterMap (xs[·]?))
 | []=> .nil
 | i::is=>by
  have ih:=r.pick is
  simp only[List.filterMap_cons,List.filterMap_cons]
  cases e:xs[i]? with
  | none=>
   have:vs[i]? =none:=List.getElem?_eq_none (by rw[r.length];exact List.getElem?_eq_none_iff.mp e)
   rw[this];exact ih
  | some x=>
   obtain⟨v,e1,e2⟩:=r.get e
   rw[e1];exact .cons e2 ih
theorem z25 {h:Heap}{arr:Array Value}{vs:List V} (rs:RVs h arr.toList vs) (e:arr.size=vs.length) (a b k:Option Int):RVs h (slicePick arr a b k).toList (z3u vs a b k):=by
 cases k with
 | none=>
  rw[slicePick_plain,e]
  exact(rs.drop _).take _
 | some k=>
  unfold slicePick z3u
  rw[e,show(fun i=>arr[i]?)=(fun i=>arr.toList[i]?) from funext fun i=>Array.getElem?_toList.symm]
  exact rs.pick _
theorem z51 {x:Tx}{t:Tok}{p q:Option (Int×Tok)}{value slice:Expr} (h1:sma x.length) (h2:Q (.str (zcq x (p.map (·.1)) (q.map (·.1)))) σ.mem) (r:Rep G Γ frz σ s):
  wpAny (model G.prog G.w) A (subscriptTail value slice (.str (mkS x) t) (.ref s.heap.objs.size)) (PO G Γ frz σ s Q) NoE {s with heap:=s.heap.push (ziw (partValue p) (partValue q) .none)}:=by
 have k:=zax s.heap (ziw (partValue p) (partValue q) .none)
 have r1:=r.grow (tk:=s.toks) k
 refine znt (typeIs_str _ _ _) F.slot_str_getitem.lookup (getItem_meets (typeIs_str _ _ _) (by decide) F.slot_str_getitem F.entry_str_getitem (F.args_str_getitem_2 _ _)
  (meets_str_getitem_slice _ _ s.heap.objs.size p q none rfl) ⟨⟨_,Heap.get?_push_size _ rfl,rfl,rfl⟩,?_⟩)
 unfold sliceMade slicePicked
 rw[mkl]
 simp only[Option.map_none,Option.getD_none,beq_self_eq_true,Bool.true_and]
 generalize p.map (·.1)=a at *
 generalize q.map (·.1)=b at *
 have hlen:=zwa a b x
 split
 ·rename_i hc
  rw[zt3 x a b (by rw[←hlen];exact beq_iff_eq.mp hc)] at h2
  exact⟨.str x,σ.mem,.str _ _,r1,.of k,h2⟩
 ·have e:(Builtin.Str.strSliceIndices a b 1 x.length).filterMap ((mkS x).cps[·]?)=(zcq x a b).map Char.toNat:=by
   have q:=zo3 (mkS x).cps a b
   rw[show(mkS x).cps.size=x.length by simp] at q
   rw[q,←zxj]
  rw[e]
  refine⟨?_,.str (zcq x a b),σ.mem,.str _ _,r1.toks _,.of k,h2⟩
  show(mkS (zcq x a b)).length≤_
  rw[mkl]
  exact ntr (zyz x a b) (zbn h1)
theorem z29 {l:Addr}{cl cu cs:Value}{a b k:Option Int}{value slice:Expr} (pl:IsPart cl a) (pu:IsPart cu b) (ps:IsPart cs k) (k0:k≠some 0)
  (h: ∃vs,(σ.mem l=some (.list vs)∨∃o,σ.mem l=some (.ro o vs))∧sma vs.length∧∀c,σ.mem c=none→Q (.obj c) (upd σ.mem c (.list (z3u vs a b k)))) (r:Rep G Γ frz σ s):
  wpAny (model G.prog G.w) A (subscriptTail value slice (.ref l) (.ref s.heap.objs.size)) (PO G Γ frz σ s Q) NoE {s with heap:=s.heap.push (ziw cl cu cs)}:=by
 have kk:=zax s.heap (ziw cl cu cs)
 refine bc fun z9=>?_
 obtain⟨vs,e0,h1,h2⟩:=h
 refine z9 ?_
 obtain⟨arr,g,rs⟩: ∃arr,s.heap.IsList l arr∧RVs s.heap arr.toList vs:=by
  rcases e0 with e0 | ⟨_,e0⟩
  ·refine bc fun z9=>?_
   obtain⟨_,_,g,rs,_⟩:=(r.hmem _ _ e0).l
   refine z9 ?_
   exact⟨_,⟨_,g,rfl,_,rfl⟩,rs⟩
  ·cases r.hmem _ _ e0 with
   | ro g c d rs=>exact⟨_,⟨_,g,c,_,d⟩,rs⟩
 have hz:=rs.length
 simp only[Array.length_toList] at hz
 refine bc fun z9=>?_
 obtain⟨v,m,p1,p2,p3,p4⟩:=PO.newList (Q:=Q) (r.grow (tk:=s.toks) kk) (tk:=s.toks) (RVs.tk (.of kk) (z25 rs hz a b k)) h2
 refine z9 ?_
 exact znt (Heap.IsList.typeIs (g.push _)) list_getitem_lookup (wpAny_getItem_list_slice (g.push _) (Heap.IsSliceOf.new ..) pl pu ps k0 ⟨v,m,p1,p2,(TK.of kk).trans p3,p4⟩ (by rw[hz];exact zbn h1))
theorem z8d {v l u st:V}{cv cl cu cs:Value}{value slice:Expr} (h:zoo σ.mem v l u st Q) (r:Rep G Γ frz σ s) (hv:RV s.heap cv v) (hl:RV s.heap cl l) (hu:RV s.heap cu u) (hs:RV s.heap cs st):
  wpAny (model G.prog G.w) A (subscriptTail value slice cv (.ref s.heap.objs.size)) (PO G Γ frz σ s Q) NoE {s with heap:=s.heap.push (ziw cl cu cs)}:=by
 cases v<;>first | (exact False.elim h) | skip
 ·cases st<;>first | (exact False.elim h) | skip
  rename_i x
  obtain⟨a,ea,h⟩:=zk5 (show slK l fun a=>slK u fun b=>sma x.length∧Q (.str (zcq x a b)) σ.mem from h)
  obtain⟨b,eb,h1,h2⟩:=zk5 h
  obtain⟨pa,rfl,rfl,_⟩:=zbz ea hl
  obtain⟨pb,rfl,rfl,_⟩:=zbz eb hu
  exact hs.eN (hv.eS fun _=>z51 h1 h2 r)
 ·rename_i x
  obtain⟨a,ea,h⟩:=zk5 (show slK l fun a=>slK u fun b=>stK st fun k=> ∃vs,(σ.mem x=some (.list vs)∨∃o,σ.mem x=some (.ro o vs))∧sma vs.length∧∀c,σ.mem c=none→Q (.obj c) (upd σ.mem c (.list (z3u vs a b k))) from h)
  obtain⟨b,eb,h⟩:=zk5 h
  obtain⟨k,ek,h,k0⟩:=z03 h
  obtain⟨_,_,_,qa⟩:=zbz ea hl
  obtain⟨_,_,_,qb⟩:=zbz eb hu
  obtain⟨_,_,_,qk⟩:=zbz ek hs
  exact hv.eO (z29 qa qb qk k0 h r)
end
section
variable {G:GS}{A:Around}{Γ:FE}{frz:Frz}{σ:St}{s:Shared}{Q:V→Mem→Prop}
structure Rm (A:Around):Prop where
 hd:A.handled=none
 un:A.units+64<cLine
theorem zv8 {h:Heap}: ∀(ns:List Int) {cs:List Value},RVs h cs (ns.map V.int)→IntsAre cs ns
 | [],_,r=>r.e0 .nil
 | _::ns,_,r=>r.eC (N:=fun cs=>IntsAre cs _) fun _ _ a b=>a.eI (M:=fun c=>IntsAre (c::_) _) fun _=> .cons _ _ (zv8 ns b)
theorem PO.newRng (r:Rep G Γ frz σ s) {x y z:Int}{t u w:Tok}{tk:Nat} (q:Q (.rng x y z) σ.mem):
  PO G Γ frz σ s Q (.ref s.heap.objs.size) {s with heap:=s.heap.push {cls:= .type "range",data:= .fields #[.int x t,.int y u,.int z w]},toks:=tk}:=by
 have k:=zax s.heap {cls:= .type "range",data:= .fields #[.int x t,.int y u,.int z w]}
 exact⟨_,_,.rng (Heap.get?_push_size _ rfl),r.grow k,.of k,q⟩
theorem Rep.anyList (r:Rep G Γ frz σ s) {l:Addr}{vs:List V} (h0:σ.mem l=some (.list vs)∨∃o,σ.mem l=some (.ro o vs)): ∃arr,s.heap.IsList l arr∧RVs s.heap arr.toList vs:=by
 rcases h0 with e0 | ⟨_,e0⟩
 ·cases r.hmem _ _ e0 with
  | list g rs=>exact⟨_,⟨_,g,rfl,_,rfl⟩,rs⟩
 ·cases r.hmem _ _ e0 with
  | ro g c d rs=>exact⟨_,⟨_,g,c,_,d⟩,rs⟩
noncomputable def Bi.val:Bi→Value
 | .range=> .type "range"
 | .list=> .type "list"
 | b=> .builtin b.name
theorem z3n {v:V}{cv:Value} (h:z9e σ.mem v Q) (r:Rep G Γ frz σ s) (hv:RV s.heap cv v):wpAny (model G.prog G.w) A (call (.builtin "len") [cv]) (PO G Γ frz σ s Q) NoE s:=by
 cases v<;>first | exact False.elim h | skip
 ·exact hv.eS fun _=>P.len_str (by rw[mkl];exact Int.not_le.mpr (zha h.1)) (by rw[mkl];exact PO.pure r (.int _ _) h.2)
 ·exact hv.eT fun _ _ _ g rs=>have e:=rs.length.symm.trans (Array.length_toList ..);PyProof.Rows.len_tuple ⟨_,g,rfl,_,rfl⟩ (by rw[←e];exact zha h.1) (by rw[←e];exact PO.pure r (.int _ _) h.2)
 ·obtain⟨vs,h0,h1,h2⟩:=h
  obtain⟨arr,g,rs⟩:=r.anyList h0
  have e:=rs.length.symm.trans (Array.length_toList ..)
  exact hv.eO (Calls.call_len_list g (by rw[←e];exact zha h1) (by rw[←e];exact PO.pure r (.int _ _) h2))
theorem z2v {a b:Int}{t u:Tok} (hA:Rm A) (h:Q (.int (if b<a then b else a)) σ.mem) (r:Rep G Γ frz σ s):wpAny (model G.prog G.w) A (call (.builtin "min") [.int a t,.int b u]) (PO G Γ frz σ s Q) NoE s:=by
 refine min_two_ints hA.hd fun h' tk k=>?_
 split
 ·rename_i c;rw[if_pos c] at h;exact⟨_,_,.int _ _,r.grow k,.of k,h⟩
 ·rename_i c;rw[if_neg c] at h;exact⟨_,_,.int _ _,r.grow k,.of k,h⟩
theorem z3a {a b:Int}{t u:Tok} (hA:Rm A) (h:Q (.int (if a<b then b else a)) σ.mem) (r:Rep G Γ frz σ s):wpAny (model G.prog G.w) A (call (.builtin "max") [.int a t,.int b u]) (PO G Γ frz σ s Q) NoE s:=by
 refine max_two_ints hA.hd fun h' tk k=>?_
 split
 ·rename_i c;rw[if_pos c] at h;exact⟨_,_,.int _ _,r.grow k,.of k,h⟩
 ·rename_i c;rw[if_neg c] at h;exact⟨_,_,.int _ _,r.grow k,.of k,h⟩
theorem Rep.intList (r:Rep G Γ frz σ s) {l:Addr}{ns:List Int} (h0:σ.mem l=some (.list (ns.map V.int))∨∃o,σ.mem l=some (.ro o (ns.map V.int))): ∃xs,s.heap.IsList l (intItems xs)∧ns=xs.toList.map (·.1):=by
 obtain⟨arr,g,rs⟩:=r.anyList h0
 have hi:=zv8 _ rs
 obtain⟨xs,e⟩:=hi.allInts.items
 rw[Array.toArray_toList] at e
 exact⟨xs,by rw[←e];exact g,by rw[←hi.numsOf,←nums_intItems,←e]⟩
theorem z3m {v:V}{cv:Value} (hA:Rm A) (h:z85 σ.mem v Q) (r:Rep G Γ frz σ s) (hv:RV s.heap cv v):wpAny (model G.prog G.w) A (call (.builtin "max") [cv]) (PO G Γ frz σ s Q) NoE s:=by
 obtain⟨l,rfl,ns,h0,h1,h2⟩:=zcl h
 obtain⟨xs,hl,hns⟩:=r.intList (.inl h0)
 have hsz:ns.length=xs.size:=by rw[hns,List.length_map,Array.length_toList]
 refine hv.eO (max_intList hA.hd hl (hsz▸h1) fun v h' tk hv hk=>?_)
 obtain⟨t,rfl⟩:=intItems_at hv
 obtain⟨g1,g2⟩:=argBest_gt (numAt xs) (xs.size-1)
 refine⟨_,_,.int _ _,r.grow hk,.of hk,h2 _ ?_ fun a ha=>?_⟩
 ·rw[hns,numAt_eq];exact getD_mem (by rw[List.length_map,Array.length_toList];exact zf 80321240585443310371368 rfl g1 (Nat.sub_add_cancel (zc 41797350144121831465 rfl h1 hsz)))
 ·rw[hns] at ha
  obtain⟨j,hj,rfl⟩:=mem_getD ha
  rw[List.length_map,Array.length_toList] at hj
  rw[←numAt_eq];exact g2 j (by exact zf 80321163501702457393705 rfl hj (Nat.sub_add_cancel (zc 4982632415785 rfl hj)))
theorem z1a {v:V}{cv:Value} (hA:Rm A) (h:z80 σ.mem v Q) (r:Rep G Γ frz σ s) (hv:RV s.heap cv v):wpAny (model G.prog G.w) A (call (.builtin "sum") [cv]) (PO G Γ frz σ s Q) NoE s:=by
 obtain⟨l,rfl,ns,h0,h2⟩:=zcl h
 obtain⟨xs,hl,hns⟩:=r.intList h0
 refine hv.eO (sum_intListG hA.hd hl fun h' tk t' hk=>⟨_,_,.int _ _,r.grow hk,.of hk,?_⟩)
 rw[preSum_eq,List.take_of_length_le (by rw[List.length_map,Array.length_toList];exact Nat.le_refl _),←hns]
 exact h2
theorem z2t {v u w:V}{cv cu cw:Value} (h:zpv v u fun a b=>asI w fun c=>tiny a∧tiny b∧tiny c∧0<c∧Q (.rng a b c) σ.mem) (r:Rep G Γ frz σ s) (hv:RV s.heap cv v) (hu:RV s.heap cu u) (hw:RV s.heap cw w):
  wpAny (model G.prog G.w) A (call (.type "range") [cv,cu,cw]) (PO G Γ frz σ s Q) NoE s:=
 zhx (M:=fun cv cu=>wpAny (model G.prog G.w) A (call (.type "range") [cv,cu,cw]) (PO G Γ frz σ s Q) NoE s) h hv hu fun _ _ _ _ h=>by
  refine bc fun z9=>?_
  obtain⟨z,rfl,_,_,h3,h4,h5⟩:=zb0 h
  refine z9 ?_
  exact hw.eI fun _=>call_range_3 (Int.ne_of_gt h4) (PO.newRng r h5) (.inl (PyProof.noPylong_small (by unfold tiny at h3;omega)))
theorem s_bi {b:Bi}{vs:List V}{cvs:List Value} (hA:Rm A) (_ok:Γ.ok) (h:zr3 σ.mem b vs Q) (r:Rep G Γ frz σ s) (hv:RVs s.heap cvs vs):
  wpAny (model G.prog G.w) A (call b.val cvs) (PO G Γ frz σ s Q) NoE s:=by
 cases b<;>first | exact False.elim h | skip
 ·obtain⟨v,rfl,h⟩:=zeq h
  exact hv.e1 fun _ a=>z3n h r a
 ·obtain⟨v,u,rfl,h⟩ | ⟨v,u,w,rfl,h⟩:=zta h
  ·exact hv.e2 fun _ _ a c=>zhx (M:=fun cv cu=>wpAny (model G.prog G.w) A (call (.builtin "min") [cv,cu]) (PO G Γ frz σ s Q) NoE s) h a c fun _ _ _ _ h=>z2v hA h r
  ·exact h.elim
 ·obtain⟨v,rfl,h⟩ | ⟨v,u,rfl,h⟩:=zmc h
  ·exact hv.e1 fun _ a=>z3m hA h r a
  ·exact hv.e2 fun _ _ a c=>zhx (M:=fun cv cu=>wpAny (model G.prog G.w) A (call (.builtin "max") [cv,cu]) (PO G Γ frz σ s Q) NoE s) h a c fun _ _ _ _ h=>z3a hA h r
 ·obtain⟨v,rfl,h⟩:=zeq h
  exact hv.e1 fun _ a=>z1a hA h r a
 ·obtain⟨v,rfl,h⟩ | ⟨v,u,rfl,h⟩ | ⟨v,u,w,rfl,h⟩:=zsv h
  ·obtain⟨x,rfl,h⟩:=zb0 h
   exact hv.e1 fun _ a=>a.eI (M:=fun c=>wpAny (model G.prog G.w) A (call (.type "range") [c]) (PO G Γ frz σ s Q) NoE s) fun _=>call_range_1 (PO.newRng r h.2)
  ·exact hv.e2 fun _ _ a c=>zhx (M:=fun cv cu=>wpAny (model G.prog G.w) A (call (.type "range") [cv,cu]) (PO G Γ frz σ s Q) NoE s) h a c fun _ _ _ _ h=>call_range_2 (PO.newRng r h.2.2)
  ·exact hv.e3 fun _ _ _ a c e=>z2t h r a c e
theorem zsw (x y:Tx) (i:Nat):StrLaws.At (mkS x) (mkS y) (mkS x).length i↔Occ x y i:=by
 unfold StrLaws.At Occ
 rw[StrLaws.subAt_eq,mkl,mkl]
 simp only[beq_iff_eq,←List.map_drop,←List.map_take]
 constructor
 ·rintro ⟨a,b⟩;exact⟨a,(List.map_inj_right fun x y e=>toNat_inj e).mp b⟩
 ·rintro ⟨a,b⟩;exact⟨a,by rw[b]⟩
theorem zwv (x y:Tx) (k:Nat):zgd x y k (match Builtin.Str.occurrences (mkS x) (mkS y) k (mkS x).length 1 with | i::_=>(i:Int) | []=>-1):=by
 rcases StrLaws.occ_head_from (mkS x) (mkS y) k 1 (Nat.le_refl _) with ⟨e,h⟩ | ⟨i,r,e,h1,h2,h3⟩
 ·rw[e];exact .inl ⟨rfl,fun i hi q=>h i hi ((zsw x y i).mpr q)⟩
 ·rw[e];exact .inr ⟨i,rfl,h1,(zsw x y i).mp h2,fun j a b q=>h3 j a b ((zsw x y j).mpr q)⟩
theorem zv5 (x y:Tx):(decide (0+(mkS y).length≤(mkS x).length)&&Builtin.Str.subAt (mkS x) (mkS y) 0)=decide (x.take y.length=y):=by
 rw[Bool.eq_iff_iff,Bool.and_eq_true,decide_eq_true_eq,decide_eq_true_eq,StrLaws.subAt_eq,mkl,mkl]
 simp only[beq_iff_eq,←List.map_take,List.drop_zero]
 constructor
 ·rintro ⟨_,b⟩;exact(List.map_inj_right fun x y e=>toNat_inj e).mp b
 ·intro b;exact⟨by have:=congrArg List.length b;rw[List.length_take] at this;exact zf 80317199704559939289643 rfl this (Nat.min_le_right _ _),by rw[b]⟩
theorem z2r (x y:Tx):(decide (0+(mkS y).length≤(mkS x).length)&&Builtin.Str.subAt (mkS x) (mkS y) ((mkS x).length-(mkS y).length))=decide (y.length≤x.length∧x.drop (x.length-y.length)=y):=by
 rw[Bool.eq_iff_iff,Bool.and_eq_true,decide_eq_true_eq,decide_eq_true_eq,StrLaws.subAt_eq,mkl,mkl]
 simp only[beq_iff_eq,←List.map_take,←List.map_drop]
 constructor
 ·rintro ⟨a,b⟩
  have:=(List.map_inj_right fun x y e=>toNat_inj e).mp b
  exact⟨by exact zc 5071429268145192 rfl a,by rw[List.take_of_length_le (by rw[List.length_drop];exact zP 83155561718923140130275880 rfl (Nat.sub_le_iff_le_add.mp (Nat.le_refl _)) (Nat.sub_add_cancel (zc 4952567644712 rfl (Nat.sub_le _ _))))] at this;exact this⟩
 ·rintro ⟨a,b⟩;exact⟨by exact zc 5070956687589928 rfl a,by rw[b,List.take_length]⟩
theorem zng {n:Nat}{i:Int} (h:0≤i):fromIndex n i=i.toNat:=by unfold fromIndex;rw[if_neg (by exact Int.not_lt.mpr (zsc 550158532640 rfl h))];congr 1;lia
noncomputable def Me.id (m:Me):String:=match m with
 | .find=>"str.find" | .startswith=>"str.startswith" | .endswith=>"str.endswith" | .join=>"str.join"
 | .append=>"list.append" | .pop=>"list.pop" | .insert=>"list.insert"
theorem z31 {h:Heap}{l:Addr}{o:Obj} (g:h.get? l=some o) (d:o.dict=none): ∀a,Value.ref l= .ref a→∃o,h.get? a=some o∧o.dict=none:=fun a e=>by cases e;exact⟨_,g,d⟩
theorem z7s {s:Shared}{l:Addr}{arr:Array Value}{n:Nat} (g:s.heap.get? l=some {cls:= .type "list",data:= .seq arr n}):s.TypeIs (.ref l) "list":=⟨_,g,rfl⟩
theorem Rep.listAt (r:Rep G Γ frz σ s) {a:Addr} (h: ∃l,σ.mem a=some (.list l)):s.TypeIs (.ref a) "list"∧∀b,Value.ref a= .ref b→∃o,s.heap.get? b=some o∧o.dict=none:=
 let ⟨_,e⟩:=h;let ⟨_,_,g,_,_⟩:=(r.hmem _ _ e).l;⟨z7s g,z31 g rfl⟩
theorem z3r {v:V}{cv:Value}{m:Me}{pl:Sem Bool}{E:Value→Shared→Prop}{R:Value×List Value→Shared→Prop} (h:zwy σ.mem v m) (r:Rep G Γ frz σ s) (hv:RV s.heap cv v) (q:R (.builtin (m.id),[cv]) s):
  wpAny (model G.prog G.w) A (getMethod cv (Str.ofString m.name) pl) R E s:=by
 cases m
 ·obtain⟨x,rfl,_⟩:=zab h;replace q:R (.builtin "str.find",[cv]) s:=q;show wpAny _ A (getMethod cv (Str.ofString "find") pl) R E s
  revert q;exact hv.eS fun _ q=>by with_reducible exact GM.find q
 ·obtain⟨x,rfl,_⟩:=zab h;replace q:R (.builtin "str.startswith",[cv]) s:=q;show wpAny _ A (getMethod cv (Str.ofString "startswith") pl) R E s
  revert q;exact hv.eS fun _ q=>by with_reducible exact GM.startswith q
 ·obtain⟨x,rfl,_⟩:=zab h;replace q:R (.builtin "str.endswith",[cv]) s:=q;show wpAny _ A (getMethod cv (Str.ofString "endswith") pl) R E s
  revert q;exact hv.eS fun _ q=>by with_reducible exact GM.endswith q
 ·obtain⟨x,rfl,_⟩:=zab h;replace q:R (.builtin "str.join",[cv]) s:=q;show wpAny _ A (getMethod cv (Str.ofString "join") pl) R E s
  revert q;exact hv.eS fun _ q=>by with_reducible exact GM.join q
 ·obtain⟨x,rfl,h⟩:=zcl h;replace q:R (.builtin "list.append",[cv]) s:=q;have h:=r.listAt h;show wpAny _ A (getMethod cv (Str.ofString "append") pl) R E s
  revert q;exact hv.eO fun q=>by with_reducible exact getMethod_builtin h.1 F.plainAttrs_list F.slot_list_append F.type_list_append h.2 q
 ·obtain⟨x,rfl,h⟩:=zcl h;replace q:R (.builtin "list.pop",[cv]) s:=q;have h:=r.listAt h;show wpAny _ A (getMethod cv (Str.ofString "pop") pl) R E s
  revert q;exact hv.eO fun q=>by with_reducible exact getMethod_builtin h.1 F.plainAttrs_list F.slot_list_pop F.type_list_pop h.2 q
 ·obtain⟨x,rfl,h⟩:=zcl h;replace q:R (.builtin "list.insert",[cv]) s:=q;have h:=r.listAt h;show wpAny _ A (getMethod cv (Str.ofString "insert") pl) R E s
  revert q;exact hv.eO fun q=>by with_reducible exact getMethod_builtin h.1 F.plainAttrs_list F.slot_list_insert F.type_list_insert h.2 q
theorem zwo {h:Heap}: ∀(xs:List Tx) {cs:List Value},RVs h cs (xs.map V.str)→StrsAre cs (xs.map mkS)
 | [],_,r=>r.e0 .nil
 | _::xs,_,r=>r.eC (N:=fun cs=>StrsAre cs _) fun _ _ a b=>a.eS (M:=fun c=>StrsAre (c::_) _) fun _=> .cons _ _ (zwo xs b)
theorem zml: ∀xs:List Tx,Str.join (mkS []) (xs.map mkS)=mkS xs.flatten
 | []=>rfl
 | [x]=>by simp[Str.join]
 | x::y::xs=>by
  have ih:=zml (y::xs)
  rw[List.map_cons,List.map_cons,Str.join,←List.map_cons,ih,zew,zew,List.append_nil]
  ·rfl
  ·intro h;cases h
theorem z1r (xs:List Tx):((xs.map mkS).map (·.length)).sum=xs.flatten.length:=by
 induction xs with
 | nil=>rfl
 | cons x xs ih=>simp only[List.map_cons,List.sum_cons,List.flatten_cons,List.length_append,ih,mkl]
theorem zy8 {x:Tx}{v:V}{cv:Value}{t:Tok} (h:x=[]∧asO v fun a=> ∃xs:List Tx,σ.mem a=some (.list (xs.map V.str))∧xs.length≤500000∧xs.flatten.length≤500000∧Q (.str xs.flatten) σ.mem) (r:Rep G Γ frz σ s) (hv:RV s.heap cv v):
  wpAny (model G.prog G.w) A (call (.builtin "str.join") [.str (mkS x) t,cv]) (PO G Γ frz σ s Q) NoE s:=by
 obtain⟨rfl,h⟩:=h
 refine bc fun z9=>?_
 obtain⟨l,rfl,xs,e,h1,h2,h3⟩:=zcl h
 refine z9 ?_
 refine bc fun z9=>?_
 obtain⟨_,n,g,rs,_⟩:=(r.hmem _ _ e).l
 refine z9 ?_
 refine hv.eO (join_listW (ys:=xs.map mkS) ⟨_,g,rfl,n,rfl⟩ (zwo _ rs) (by rw[mkl];decide) (by rw[z1r,List.length_map];exact zc 808773686873140638433592767241784473356861992 rfl h1 h2) fun t' k=>?_)
 rw[show PySem.Txt.join (mkS []) (xs.map mkS)=mkS xs.flatten from(StrLaws.glued_eq_join _ _).trans (zml xs)]
 exact PO.pure r (.str _ _) h3
theorem PO.upd (ok:Γ.ok) (r:Rep G Γ frz σ s) {a:Addr}{l l':List V}{arr:Array Value}{n:Nat}{f:Array Value→Array Value} (e:σ.mem a=some (.list l)) (g:s.heap.get? a=some {cls:= .type "list",data:= .seq arr n})
  {v:V} {cv:Value} (rv: ∀h',TK s.heap h'→RV h' cv v) (rs: ∀h',TK s.heap h'→RVs h' (f arr).toList l') (q:Q v (Mine.Internal.upd σ.mem a (.list l'))):PO G Γ frz σ s Q cv {s with heap:=s.heap.update a (Obj.mapSeq f)}:=
 have p:=r.change ok (tk:=s.toks) (o:= .list l') e (h':=s.heap.update a (Obj.mapSeq f)) (fun _ _ hb e=>(Heap.get?_update_other _ _ (Ne.symm hb)).trans e) (fun k=> .list (Heap.get?_update_self _ g rfl) (rs _ k))
 ⟨v,_,rv _ p.2,p.1,p.2,q⟩
theorem z2s {a:Addr}{v:V}{cv:Value} (ok:Γ.ok) (h: ∃vs,σ.mem a=some (.list vs)∧sma vs.length∧Q .none (Mine.Internal.upd σ.mem a (.list (vs++[v])))) (r:Rep G Γ frz σ s) (hv:RV s.heap cv v):
  wpAny (model G.prog G.w) A (call (.builtin "list.append") [.ref a,cv]) (PO G Γ frz σ s Q) NoE s:=by
 obtain⟨l,e,h1,h2⟩:=h
 obtain⟨arr,n,g,rs,hz⟩:=(r.hmem _ _ e).l
 refine call_meets F.slot_list_append ⟨_,g,rfl⟩ F.entry_list_append (F.args_list_append_2 _ _) (AutoListH.list_append_list_val_0 _ _ _ _ (by rw[hz];exact zbn h1)) ⟨g,?_⟩
 exact PO.upd ok r e g (fun _ _=> .none) (fun h' k=>by rw[Array.toList_push];exact(rs.tk k).append (.one (hv.tk k))) h2
theorem z0s {a:Addr} (ok:Γ.ok) (h: ∃vs v,σ.mem a=some (.list (vs++[v]))∧sma vs.length∧Q v (Mine.Internal.upd σ.mem a (.list vs))) (r:Rep G Γ frz σ s):
  wpAny (model G.prog G.w) A (call (.builtin "list.pop") [.ref a]) (PO G Γ frz σ s Q) NoE s:=by
 obtain⟨vs,v,e,h1,h2⟩:=h
 obtain⟨arr,n,g,rs,hz⟩:=(r.hmem _ _ e).l
 rw[List.length_append,List.length_singleton] at hz
 obtain⟨cv,g1,g2⟩:=rs.get (i:=vs.length) (x:=v) List.getElem?_concat_length
 have hz':arr.size-1=vs.length:=by rw[hz];rfl
 refine call_meets F.slot_list_pop ⟨_,g,rfl⟩ F.entry_list_pop (F.args_list_pop_1 _) (MeetsSeq.list_pop_last _ _ _ cv (by rw[hz',←Array.getElem?_toList];exact g1) (by rw[hz,sizeLine_eq];exact ntr (Nat.succ_le_succ h1) (by decide))) ⟨g,?_⟩
 refine PO.upd ok r e g (fun _ k=>g2.tk k) (fun h' k=>?_) h2
 have t:=(rs.tk k).take vs.length
 rw[List.take_left' rfl] at t
 simp only[Array.toList_eraseIdxIfInBounds,List.eraseIdx_eq_take_drop_succ,hz',List.drop_of_length_le (by rw[Array.length_toList,hz];exact Nat.le_refl _),List.append_nil]
 exact t
theorem z2w {arr:Array Value}{k:Int}{x:Value} (h0:0≤k):((arr.extract 0 (if k<0 then(k+(arr.size:Int)).toNat else min k.toNat arr.size)).push x++arr.extract (if k<0 then(k+(arr.size:Int)).toNat else min k.toNat arr.size)).toList=arr.toList.take k.toNat++x::arr.toList.drop k.toNat:=by
 simp only[if_neg (Int.not_lt.mpr h0),Array.toList_append,Array.toList_push,Array.toList_extract,Array.toList_extract,List.extract_eq_take_drop,List.extract_eq_take_drop,List.append_assoc,←Array.length_toList,List.drop_zero,Nat.sub_zero]
 by_cases hc:k.toNat≤arr.toList.length
 ·rw[Nat.min_eq_left hc,List.take_of_length_le (l:=arr.toList.drop _) (by rw[List.length_drop];exact Nat.le_refl _)];rfl
 ·have hc:=Nat.le_of_not_le hc
  rw[Nat.min_eq_right hc,List.take_of_length_le hc,List.drop_of_length_le hc,List.drop_of_length_le (Nat.le_refl _),List.take_length,List.take_nil];rfl
theorem z10 {a:Addr}{i v:V}{ci cv:Value} (ok:Γ.ok) (h:asI i fun k=>0≤k∧tiny k∧∃vs,σ.mem a=some (.list vs)∧sma vs.length∧Q .none (Mine.Internal.upd σ.mem a (.list (vs.take k.toNat++v::vs.drop k.toNat)))) (r:Rep G Γ frz σ s) (hi:RV s.heap ci i) (hv:RV s.heap cv v):
  wpAny (model G.prog G.w) A (call (.builtin "list.insert") [.ref a,ci,cv]) (PO G Γ frz σ s Q) NoE s:=by
 refine bc fun z9=>?_
 obtain⟨k,rfl,h0,hk,l,e,h1,h2⟩:=zb0 h
 refine z9 ?_
 refine bc fun z9=>?_
 obtain⟨arr,n,g,rs,hz⟩:=(r.hmem _ _ e).l
 refine z9 ?_
 refine hi.eI fun _=>call_meets F.slot_list_insert ⟨_,g,rfl⟩ F.entry_list_insert (F.args_list_insert_3 _ _ _) (AutoListH.list_insert_list_int_val_1 _ _ _ _ _ _ (by rw[zid hk];decide) (by rw[hz];exact zbn h1)) ⟨g,?_⟩
 exact PO.upd ok r e g (fun _ _=> .none) (fun h' kk=>by rw[z2w h0];exact((rs.tk kk).take _).append (.cons (hv.tk kk) ((rs.tk kk).drop _))) h2
theorem zyj {x:Tx}{t:Tok}{vs:List V}{cvs:List Value} (h:zys vs (fun v=>asS v fun t=>sma x.length∧sma t.length∧∀r,zgd x t 0 r→Q (.int r) σ.mem) fun v u=>asS v fun t=>asI u fun i=>sma x.length∧sma t.length∧0≤i∧∀r,zgd x t i.toNat r→Q (.int r) σ.mem)
  (r:Rep G Γ frz σ s) (hv:RVs s.heap cvs vs):wpAny (model G.prog G.w) A (call (.builtin "str.find") (.str (mkS x) t::cvs)) (PO G Γ frz σ s Q) NoE s:=by
 obtain⟨v,rfl,h⟩ | ⟨v,u,rfl,h⟩:=zmc h
 ·obtain⟨y,rfl,_,_,h3⟩:=zab h
  refine hv.e1 fun _ a=>a.eS (M:=fun c=>wpAny (model G.prog G.w) A (call (.builtin "str.find") [.str (mkS x) t,c]) (PO G Γ frz σ s Q) NoE s) fun _=>?_
  exact call_meets F.slot_str_find (typeIs_str _ _ _) F.entry_str_find (F.args_str_find_2 _ _) (gives_str_find _ _ _ _).meets (PO.pure r (.int _ _) (h3 _ (zwv _ _ 0)))
 ·obtain⟨y,rfl,h⟩:=zab h
  obtain⟨i,rfl,_,_,h0,h3⟩:=zb0 h
  refine hv.e2 fun _ _ a c=>a.eS (M:=fun d=>wpAny (model G.prog G.w) A (call (.builtin "str.find") [.str (mkS x) t,d,_]) (PO G Γ frz σ s Q) NoE s) fun _=>?_
  refine c.eI (M:=fun d=>wpAny (model G.prog G.w) A (call (.builtin "str.find") [.str (mkS x) t,.str (mkS y) _,d]) (PO G Γ frz σ s Q) NoE s) fun _=>?_
  exact call_meets F.slot_str_find (typeIs_str _ _ _) F.entry_str_find (F.args_str_find_3 _ _ _) (gives_str_find_from _ _ _ _ _ _).meets (PO.pure r (.int _ _) (by rw[zng h0];exact h3 _ (zwv _ _ _)))
theorem s_me {v:V}{m:Me}{vs:List V}{cv:Value}{cvs:List Value} (ok:Γ.ok) (h:zt4 σ.mem v m vs Q) (r:Rep G Γ frz σ s) (hv:RV s.heap cv v) (hvs:RVs s.heap cvs vs):
  wpAny (model G.prog G.w) A (call (.builtin (m.id)) (cv::cvs)) (PO G Γ frz σ s Q) NoE s:=by
 cases m
 ·obtain⟨x,rfl,h⟩:=zab h
  exact hv.eS fun _=>zyj h r hvs
 ·obtain⟨x,rfl,h⟩:=zab h
  obtain⟨v,rfl,h⟩:=zeq h
  obtain⟨y,rfl,h⟩:=zab h
  exact hv.eS fun t=>hvs.e1 fun _ a=>a.eS (M:=fun c=>wpAny (model G.prog G.w) A (call (.builtin "str.startswith") [.str (mkS x) t,c]) (PO G Γ frz σ s Q) NoE s) fun _=>
   call_meets F.slot_str_startswith (typeIs_str _ _ _) F.entry_str_startswith (F.args_str_startswith_2 _ _) (gives_str_startswith _ _ _ _).meets (PO.here r (.bool _) (by rw[zv5];exact h))
 ·obtain⟨x,rfl,h⟩:=zab h
  obtain⟨v,rfl,h⟩:=zeq h
  obtain⟨y,rfl,h⟩:=zab h
  exact hv.eS fun t=>hvs.e1 fun _ a=>a.eS (M:=fun c=>wpAny (model G.prog G.w) A (call (.builtin "str.endswith") [.str (mkS x) t,c]) (PO G Γ frz σ s Q) NoE s) fun _=>
   call_meets F.slot_str_endswith (typeIs_str _ _ _) F.entry_str_endswith (F.args_str_endswith_2 _ _) (gives_str_endswith _ _ _ _).meets (PO.here r (.bool _) (by rw[z2r];exact h))
 ·obtain⟨x,rfl,h0,h⟩:=zab h
  obtain⟨v,rfl,h⟩:=zeq h
  exact hv.eS fun t=>hvs.e1 fun _ a=>zy8 ⟨h0,h⟩ r a
 ·obtain⟨a,rfl,h⟩:=zcl h
  obtain⟨v,rfl,h⟩:=zeq h
  exact hv.eO (hvs.e1 fun _ a=>z2s ok h r a)
 ·obtain⟨a,rfl,rfl,h'⟩:=zcl h
  exact hv.eO (hvs.e0 (z0s ok (show ∃vs v,σ.mem a=some (.list (vs++[v]))∧sma vs.length∧Q v (Mine.Internal.upd σ.mem a (.list vs)) from h') r))
 ·obtain⟨a,rfl,h⟩:=zcl h
  obtain⟨i,v,rfl,h⟩:=zxk h
  exact hv.eO (hvs.e2 fun _ _ a c=>z10 ok h r a c)
end
section
variable {G:GS}{A:Around}{Γ:FE}{frz:Frz}{σ:St}{s:Shared}{Q:V→Mem→Prop}
theorem zey {h:Heap}{n:String}: ∀{es:List DictEntry}{fs:List (Str×V)},zd3 h es fs→
  (∀v,yT n fs=some v→∃cv,getL (Str.ofString n) es=some (some cv)∧RV h cv v)∧(yT n fs=none→getL (Str.ofString n) es=some none)
 | [],[],_=>⟨fun v e=>by simp[yT] at e,fun _=>rfl⟩
 | e::es,(x,u)::fs,⟨⟨t,hk⟩,hr,hf⟩=>by
  obtain⟨ih1,ih2⟩:=zey (n:=n) hf
  have hi:e.key.isStr (Str.ofString n)=(x==Str.ofString n):=by rw[hk];rfl
  have href:e.refKey=false:=by unfold DictEntry.refKey;rw[hk]
  constructor
  ·intro v hl
   unfold yT at hl
   unfold getL
   rw[List.find?_cons,hi]
   split at hl
   ·rename_i c
    rw[beq_iff_eq.mpr c]
    cases hl
    exact⟨_,rfl,hr⟩
   ·rename_i c
    rw[beq_eq_false_iff_ne.mpr c]
    obtain⟨cv,g,q⟩:=ih1 v hl
    refine⟨cv,?_,q⟩
    unfold getL at g
    split at g
    ·rename_i c2;rw[c2];exact g
    ·split at g<;>cases g
  ·intro hl
   unfold yT at hl
   unfold getL
   rw[List.find?_cons,hi]
   split at hl
   ·cases hl
   ·rename_i c
    rw[beq_eq_false_iff_ne.mpr c]
    have g:=ih2 hl
    unfold getL at g
    split at g
    ·cases g
    ·rename_i c2
     rw[c2]
     split at g
     ·cases g
     ·rename_i c3
      simp only[List.any_cons,href,Bool.false_or]
      rw[if_neg c3]
 | [],_::_,x=>x.elim
 | _::_,[],x=>x.elim
structure PC.ok (G:GS) (P:PC):Prop where
 hd:hasDictIn G.K P.cls=true
 get: ∀n,P.fld n=true→plainGet G.K P.cls (Str.ofString n)=true∧findIn G.K (.ref P.cls) (Str.ofString n)=some none∧takerIn G.K P.cls (Str.ofString n)=some none
 cc: ∀n v,P.cc n=some v→plainGet G.K P.cls (Str.ofString n)=true∧copiedNames.contains (Str.ofString n)=false∧
  ∃a,findIn G.K (.ref P.cls) (Str.ofString n)=some (some a)∧specialIn G.K a "__get__"=some none∧handedIn a=true∧∀h,RV h a v
 set:findIn G.K (.ref P.cls) "__setattr__"=some (some (.builtin "object.__setattr__"))
 over:plainOver G.K P.cls=true
theorem Rep.kin (gok:G.ok) (r:Rep G Γ frz σ s):G.K.In s.heap:=fun a o e=>r.hfrz _ _ (r.hbase _ _ (gok.k a o e))
theorem zvh {h:Heap}{cv:Value}{v:V} (r:RV h cv v):handedIn cv=true:=by cases r<;>rfl
theorem zpi (r:Rep G Γ frz σ s) {C a d:Addr}{fs:List (Str×V)} (e1:σ.mem a=some (.inst C d)) (e2:σ.mem d=some (.dict fs)):
  ∃es n,InstAt s.heap a (instObj C d) C (some (dictOf es n))∧zd3 s.heap es fs∧s.heap.get? d=some (dictOf es n):=by
 cases r.hmem _ _ e1 with
 | inst g1=>
 cases r.hmem _ _ e2 with
 | @dict es n _ g2 hf=>exact⟨es,n,⟨g1,rfl,rfl,g2⟩,hf,g2⟩
theorem z6z {P:PC}{v:V}{cv:Value}{n:String}{expr:Bool}{Q:V→Prop} (gok:G.ok) (pok:P.ok G) (h:ziy P σ.mem v n Q) (r:Rep G Γ frz σ s) (hv:RV s.heap cv v):
  wpAny (model G.prog G.w) A (getAttr cv (Str.ofString n) expr) (PO G Γ frz σ s fun r m=>m=σ.mem∧Q r) NoE s:=by
 unfold ziy at h
 split at h
 ·refine bc fun z9=>?_
  obtain⟨d,fs,e1,e2,h⟩:=h
  refine z9 ?_
  cases hv
  refine bc fun z9=>?_
  obtain⟨es,k,I,hf,_⟩:=zpi r e1 e2
  refine z9 ?_
  have X:=r.kin gok
  obtain⟨q1,q2⟩:=zey (n:=_) hf
  split at h
  ·rename_i v hl
   refine bc fun z9=>?_
   obtain⟨cv,g,rv⟩:=q1 _ hl
   refine z9 ?_
   refine bc fun z9=>?_
   obtain⟨a1,a2,a3⟩:=pok.get _ h.1
   refine z9 ?_
   exact get_value X I (plainGet_of a1).1 (findObj_own pok.hd a2 rfl g) (zvh rv) ⟨_,_,rv.tk (.refl _),r.toks _,.refl _,rfl,h.2⟩
  ·rename_i hl
   refine bc fun z9=>?_
   obtain⟨v,hc,q⟩:=h
   refine z9 ?_
   refine bc fun z9=>?_
   obtain⟨a1,a2,a,a3,a4,a5,a6⟩:=pok.cc _ _ hc
   refine z9 ?_
   exact get_value X I (plainGet_of a1).1 (findObj_cls pok.hd a3 a4 a5 a2 (q2 hl)) a5 ⟨_,_,a6 _,r.toks _,.refl _,rfl,q⟩
 ·exact h.elim
theorem zd3.length {h:Heap}: ∀{es:List DictEntry}{fs:List (Str×V)},zd3 h es fs→es.length=fs.length
 | [],[],_=>rfl
 | _::_,_::_,⟨_,_,f⟩=>by simp[f.length]
 | [],_::_,x=>x.elim
 | _::_,[],x=>x.elim
theorem zkc {h:Heap}{n:String}{hs:Int}{tk:Tok}{cv:Value}{v:V} (rv:RV h cv v): ∀{es:List DictEntry}{fs:List (Str×V)},zd3 h es fs→
  zd3 h (putL (Str.ofString n) hs (.str (Str.ofString n) tk) cv es) (zns n v fs)∧(putL (Str.ofString n) hs (.str (Str.ofString n) tk) cv es).length≤fs.length+1
 | [],[],_=>⟨⟨⟨tk,rfl⟩,rv,trivial⟩,by simp[putL]⟩
 | e::es,(x,u)::fs,⟨⟨t,hk⟩,hr,hf⟩=>by
  obtain⟨ih1,ih2⟩:=zkc (n:=n) (hs:=hs) (tk:=tk) rv hf
  have hi:e.key.isStr (Str.ofString n)=(x==Str.ofString n):=by rw[hk];rfl
  unfold putL zns
  rw[hi]
  by_cases c:x=Str.ofString n
  ·rw[if_pos (by simpa using c),if_pos c]
   have hlen:es.length=fs.length:=by
    exact hf.length
   exact⟨⟨⟨t,hk⟩,rv,hf⟩,by simp[hlen]⟩
  ·rw[if_neg (by simpa using c),if_neg c]
   exact⟨⟨⟨t,hk⟩,hr,ih1⟩,by simp;omega⟩
 | [],_::_,x=>x.elim
 | _::_,[],x=>x.elim
theorem ztg {h:Heap}{a:Addr}{m m':Str→Option Value} (x:h.Ns a m) (y:h.Ns a m'):m=m':=by
 obtain⟨o,es,ep,e,d,_,f⟩:=x
 obtain⟨o',es',ep',e',d',_,f'⟩:=y
 rw[e] at e';cases e'
 rw[d] at d';cases d'
 funext n;rw[←f,←f']
theorem zu4 {P:PC}{a d:Addr}{fs:List (Str×V)}{v:V}{cv:Value}{n:String} (gok:G.ok) (pok:P.ok G) (ok:Γ.ok) (r:Rep G Γ frz σ s) (e1:σ.mem a=some (.inst P.cls d)) (e2:σ.mem d=some (.dict fs))
  (hf:P.fld n=true) (hz:fs.length≤100) (hv:RV s.heap cv v):
  wpAny (model G.prog G.w) A (setAttr (.ref a) (Str.ofString n) cv) (fun _ s'=>Rep G Γ frz {σ with mem:=upd σ.mem d (.dict (zns n v fs))} s'∧TK s.heap s'.heap) NoE s:=by
 refine bc fun z9=>?_
 obtain⟨es,k,I,hF,g⟩:=zpi r e1 e2
 refine z9 ?_
 refine bc fun z9=>?_
 obtain⟨m,nm,_⟩:=r.hns
 refine z9 ?_
 have X:=r.kin gok
 obtain⟨q1,q2⟩:=zey (n:=n) hF
 refine bc fun z9=>?_
 obtain⟨a1,a2,a3⟩:=pok.get _ hf
 refine z9 ?_
 obtain⟨p1,p2⟩:=zkc (n:=n) (hs:=PyData.keyHash G.w.params (Str.ofString n)) (tk:=s.toks+1) hv hF
 have hl:(lookIn (Str.ofString n) (dictOf es k)).isSome=true:=by
  rw[lookIn_dict]
  cases hq:yT n fs with
  | none=>rw[q2 hq];rfl
  | some u=>obtain⟨cu,gu,_⟩:=q1 u hq;rw[gu];rfl
 have hdL:d≠Γ.env.locals:=r.mem_ne e2
 have hdb:G.base.get? d=none:=by
  cases q:G.base.get? d with
  | none=>rfl
  | some o=>have:=r.hbase _ _ q;rw[r.hmemF _ _ e2] at this;cases this
 have N:News G.base Γ.env.locals s.heap ([]++(d,dictOf es k)::zjr G Γ.env.locals s.heap [d]):=fun p hp=>by
  rcases List.mem_cons.mp hp with rfl | hp
  ·exact⟨g,hdL,hdb⟩
  ·exact r.rest [d] p hp
 refine set_plain X I pok.set ?_
 refine osa_dict (s:={s with toks:=s.toks+1}) (r.fr nm) N X I rfl pok.over a3 pok.hd hl (fun _ h=>(nomatch h)) (fun p hp=>?_) (putName_dict _ _ _ _ _ _) rfl (ntr p2 (by exact zw 9398625123869887824424 rfl hz)) fun h' F' N'=>?_
 ·obtain⟨b,o⟩:=p
  have:=(zet.mp hp).2.1
  simpa using this
 ·have N2:News G.base Γ.env.locals h' (zjr G Γ.env.locals s.heap [d]):=fun p hp=>N' p (List.mem_cons_of_mem _ hp)
  have g':=(N' _ (List.mem_cons_self)).1
  exact r.changeL ok e2 (fun b o hb hl e=>r.keep_of_rest F' N2 b o (by simpa using hb) hl e) (fun m' n'=>ztg nm n'▸F'.ns) (fun k=> .dict g' (p1.tk k))
end
noncomputable def zm0 (σ:St) (s:Shared):Frz:=fun b=>match σ.mem b with
 | some _=>none
 | none=>s.heap.get? b
theorem yN {σ:St}{s:Shared}{b:Addr}{o:Obj}:zm0 σ s b=some o↔σ.mem b=none∧s.heap.get? b=some o:=by
 unfold zm0
 cases σ.mem b<;>simp
noncomputable def PR (G:GS) (frz:Frz) (s:Shared) (Q:V→Mem→Prop):Value→Shared→Prop:=
 fun cv s'=> ∃v m,RV s'.heap cv v∧Rp G frz m s'∧TK s.heap s'.heap∧Q v m
noncomputable def zdk (G:GS) (A:Around) (f:Value) (vs:List V) (Q:V→Mem→Prop) (m:Mem):Prop:=
 ∀Γ frz σ s cvs,FE.ok Γ→Rep G Γ frz σ s→σ.mem=m→RVs s.heap cvs vs→wpAny (model G.prog G.w) A (call f cvs) (PO G Γ frz σ s Q) NoE s
section
variable {G:GS}{A:Around}{Γ:FE}{frz:Frz}{σ:St}{s s':Shared}
theorem Rep.upIn (r:Rep G Γ frz σ s) {b:Addr}{o:Obj} (e:frz b=some o):zm0 σ s b=some o:=by
 refine yN.mpr ⟨?_,r.hfrz _ _ e⟩
 cases q:σ.mem b with
 | none=>rfl
 | some x=>rw[r.hmemF b x q] at e;cases e
theorem Rep.inn (r:Rep G Γ frz σ s):Rp G (zm0 σ s) σ.mem s:=
 ⟨r.same,fun _ _ e=>r.upIn (r.hbase _ _ e),fun _ _ e=>r.upIn (r.hkeep _ _ e),fun _ _ e=>(yN.mp e).2,r.hmem,fun a o e=>by unfold zm0;rw[e],r.rp.hsz⟩
theorem Rep.back (r:Rep G Γ frz σ s) {G':GS} (hs0:G'.s0=G.s0) {frz':Frz}{m':Mem} (r':Rp G' frz' m' s') (hf: ∀b o,σ.mem b=none→b=Γ.env.locals∨(∃o',frz b=some o')∨(∃(i:Nat),∃x,Γ.vars[i]? =some (x,.own b))→s.heap.get? b=some o→frz' b=some o)
  (tk:TK s.heap s'.heap):Rep G Γ frz {σ with mem:=m'} s':=by
 have none_of: ∀b o,frz b=some o→σ.mem b=none:=fun b o e=>by
  cases q:σ.mem b with
  | none=>rfl
  | some x=>rw[r.hmemF b x q] at e;cases e
 have out: ∀b o,frz' b=some o→m' b=none:=fun b o g=>by
  cases q:m' b with
  | none=>rfl
  | some x=>have:=r'.hmemF b x q;rw[g] at this;cases this
 have F1: ∀b o,frz b=some o→frz' b=some o:=fun b o e=>hf b o (none_of b o e) (.inr (.inl ⟨o,e⟩)) (r.hfrz b o e)
 refine bc fun z9=>?_
 obtain⟨m,⟨o0,es,ep,e0,rest⟩,f⟩:=r.hns
 refine z9 ?_
 have FL:=hf _ _ r.hlm (.inl rfl) e0
 refine⟨by rw[←hs0];exact r'.same,r.hbase,r.hkeep,fun b o e=>r'.hfrz _ _ (F1 b o e),r'.hmem,fun a o e=>?_,r.hab,r.hlf,out _ _ FL,?_,?_,?_⟩
 ·cases q:frz a with
  | none=>rfl
  | some x=>have:=out a x (F1 a x q);rw[show m' a=some o from e] at this;cases this
 ·exact⟨m,⟨o0,es,ep,r'.hfrz _ _ FL,rest⟩,fun i x v p q=>let ⟨cv,e1,e2⟩:=f i x v p q;⟨cv,e1,e2.tk tk⟩⟩
 ·intro i x c e
  refine bc fun z9=>?_
  obtain⟨p,q,o,ov,g,d,f⟩:=r.hown i x c e
  refine z9 ?_
  have FC:=hf c o q (.inr (.inr ⟨i,x,e⟩)) g
  exact⟨p,out _ _ FC,o,ov,r'.hfrz _ _ FC,d,fun v z=>let ⟨cv,e1,e2⟩:=f v z;⟨cv,e1,e2.tk tk⟩⟩
 ·intro i x c e
  refine bc fun z9=>?_
  obtain⟨o,ov,g,d,f⟩:=r.href i x c e
  refine z9 ?_
  exact⟨o,ov,g,d,fun v z=>let ⟨cv,e1,e2⟩:=f v z;⟨cv,e1,e2.tk tk⟩⟩
theorem zdk.of {f:Value}{vs:List V}{Q:V→Mem→Prop}{m:Mem} (h: ∀frz s cvs,Rp G frz m s→RVs s.heap cvs vs→wpAny (model G.prog G.w) A (call f cvs) (PR G frz s Q) NoE s):zdk G A f vs Q m:=fun Γ frz σ s cvs _ r hm hv=>by
 subst hm
 exact wpAny_mono (h _ s cvs r.inn hv) (fun _ _ ⟨v,m,a,b,c,d⟩=>⟨v,m,a,r.back rfl b (fun _ _ q _ e=>yN.mpr ⟨q,e⟩) c,c,d⟩) fun _ _ x=>x
end
structure PC.run (G:GS) (A:Around) (P:PC):Prop where
 ok:P.ok G
 call: ∀n,n∈G.fns→∃f,nsIn G.K mainGlobals (Str.ofString n)=some (some f)∧keepIn G.K f=true∧∀vs Q m,P.call n vs Q m→zdk G A f vs Q m
 meth: ∀n,n∈G.meths→∃f,findIn G.K (.ref P.cls) (Str.ofString n)=some (some (.ref f))∧isFn G.K (.ref f)=true∧plainGet G.K P.cls (Str.ofString n)=true∧keepIn G.K (.ref f)=true∧
  ∀vs Q m,P.meth n vs Q m→zdk G A (.ref f) vs Q m
 loc: ∀v vs Q m,P.loc v vs Q m→∃a fo fd,v= .obj a∧m a=some (.fn fo)∧fo.data= .func fd∧zdk G A (.ref a) vs Q m
structure GS.bi (G:GS):Prop where
 bi: ∀b:Bi,G.mg (Str.ofString b.name)=none∧G.mb (Str.ofString b.name)=some b.val
structure SC.ok (G:GS) (C:SC) (Γ:FE):Prop where
 cells: ∀(i:Nat) x,x∈C.cells→Γ.vars[i]? ≠some (x,.loc)
 fns: ∀n,n∈C.fns→n∈G.fns
 meths: ∀n,n∈C.meths→n∈G.meths
 vars: ∀(i:Nat) x r,C.vars[i]? =some (x,r)→∃k,Γ.vars[i]? =some (x,k)∧(r=false→∀c,k≠ .ref c)
 names: ∀x,C.names.lookup x=some .globalImplicit→Γ.env.kindOf x=some .globalImplicit
section
variable {G:GS}{A:Around}{Γ:FE}{frz:Frz}{σ:St}{s:Shared}
theorem PV.after {s₁ s':Shared}{Q:V→St→Prop}{cv:Value} (k:TK s.heap s₁.heap) (h:PV G Γ frz s₁ Q cv s'):PV G Γ frz s Q cv s':=
 let ⟨v,σ',a,b,c,d⟩:=h;⟨v,σ',a,b,k.trans c,d⟩
theorem PB.after {s₁ s':Shared}{Q:Bool→St→Prop}{b:Bool} (k:TK s.heap s₁.heap) (h:PB G Γ frz s₁ Q b s'):PB G Γ frz s Q b s':=
 let ⟨σ',b,c,d⟩:=h;⟨σ',b,k.trans c,d⟩
theorem PU.after {s₁ s':Shared}{Q:St→Prop}{b:Unit} (k:TK s.heap s₁.heap) (h:PU G Γ frz s₁ Q b s'):PU G Γ frz s Q b s':=
 let ⟨σ',b,c,d⟩:=h;⟨σ',b,k.trans c,d⟩
theorem PF.after {s₁ s':Shared}{Q:Fl→St→Prop}{f:Flow} (k:TK s.heap s₁.heap) (h:PF G Γ frz s₁ Q f s'):PF G Γ frz s Q f s':=
 let ⟨v,σ',a,b,c,d⟩:=h;⟨v,σ',a,b,k.trans c,d⟩
theorem PO.toPV {Q':V→Mem→Prop}{Q:V→St→Prop}{cv:Value}{s':Shared} (h:PO G Γ frz σ s Q' cv s') (q: ∀r m,Q' r m→Q r {σ with mem:=m}):PV G Γ frz s Q cv s':=
 let ⟨v,m,a,b,c,d⟩:=h;⟨v,_,a,b,c,q v m d⟩
theorem W.then {t:Sem Value}{Q:V→St→Prop}{post:Value→Shared→Prop} (h:W G A Γ t Q σ) (r:Rep G Γ frz σ s)
  (k: ∀cv v σ₁ s₁,RV s₁.heap cv v→Rep G Γ frz σ₁ s₁→TK s.heap s₁.heap→Q v σ₁→post cv s₁):wpAny (model G.prog G.w) A t post NoE s:=
 wpAny_mono (h frz s r) (fun cv s₁ ⟨v,σ₁,a,b,c,d⟩=>k cv v σ₁ s₁ a b c d) fun _ _ x=>x
theorem Ws.then {t:Sem (List Value)}{Q:List V→St→Prop}{post:List Value→Shared→Prop} (h:Ws G A Γ t Q σ) (r:Rep G Γ frz σ s)
  (k: ∀cv v σ₁ s₁,RVs s₁.heap cv v→Rep G Γ frz σ₁ s₁→TK s.heap s₁.heap→Q v σ₁→post cv s₁):wpAny (model G.prog G.w) A t post NoE s:=
 wpAny_mono (h frz s r) (fun cv s₁ ⟨v,σ₁,a,b,c,d⟩=>k cv v σ₁ s₁ a b c d) fun _ _ x=>x
theorem WB.then {t:Sem Bool}{Q:Bool→St→Prop}{post:Bool→Shared→Prop} (h:WB G A Γ t Q σ) (r:Rep G Γ frz σ s)
  (k: ∀b σ₁ s₁,Rep G Γ frz σ₁ s₁→TK s.heap s₁.heap→Q b σ₁→post b s₁):wpAny (model G.prog G.w) A t post NoE s:=
 wpAny_mono (h frz s r) (fun b s₁ ⟨σ₁,a,c,d⟩=>k b σ₁ s₁ a c d) fun _ _ x=>x
theorem z8s {v:V}{c:Const}{k:Nat}{pos:Pos}{Q:V→St→Prop} (h:zx3 v c=true) (q:Q v σ):W G A Γ (eval (.Constant c k pos) Γ.env) Q σ:=fun frz s r=>by
 rw[arm_eval_Constant]
 cases v with
 | none=>cases (beq_iff_eq.mp h);exact wpAny_pure ⟨_,_,.none,r,.refl _,q⟩
 | bool=>cases (beq_iff_eq.mp h);exact wpAny_pure ⟨_,_,.bool _,r,.refl _,q⟩
 | int=>cases (beq_iff_eq.mp h);exact wpAny_mkInt ⟨_,_,.int _ _,r.toks _,.refl _,q⟩
 | flt=>cases (beq_iff_eq.mp h);exact wpAny_bind (wpAny_fresh (wpAny_pure ⟨_,_,.flt _ _,r.toks _,.refl _,q⟩))
 | str=>cases (beq_iff_eq.mp h);exact wpAny_mkText ⟨_,_,.str _ _,r.toks _,.refl _,q⟩
 | tup=>exact absurd h Bool.false_ne_true
 | rng=>exact absurd h Bool.false_ne_true
 | obj=>exact absurd h Bool.false_ne_true
theorem zzz {i:Nat}{x:Str}{pos:Pos}{k:VK}{v:V}{Q:V→St→Prop} (ok:Γ.ok) (hx:Γ.vars[i]? =some (x,k)) (hv:σ.loc[i]? =some (some v)) (q:Q v σ):
  W G A Γ (eval (.Name x pos) Γ.env) Q σ:=fun frz s r=>by
 refine wpAny_Name ?_ (ok.dbg i x k hx).1
 cases k with
 | loc=>
  refine bc fun z9=>?_
  obtain⟨m,n,f⟩:=r.hns
  refine z9 ?_
  refine bc fun z9=>?_
  obtain⟨cv,e,rv⟩:=f i x v hx hv
  refine z9 ?_
  exact wpAny_loadName_local ok.fn (ok.loc i x hx) n e ⟨v,σ,rv,r,.refl _,q⟩
 | own c=>
  refine bc fun z9=>?_
  obtain⟨_,_,o,ov,g,d,f⟩:=r.hown i x c hx
  refine z9 ?_
  refine bc fun z9=>?_
  obtain⟨cv,e,rv⟩:=f v hv
  refine z9 ?_
  subst e
  refine bc fun z9=>?_
  obtain⟨a1,a2,_⟩:=ok.own i x c hx
  refine z9 ?_
  exact wpAny_loadName_cell ok.fn a1 a2 ⟨_,g,d⟩ ⟨v,σ,rv,r,.refl _,q⟩
 | ref c=>
  refine bc fun z9=>?_
  obtain⟨o,ov,g,d,f⟩:=r.href i x c hx
  refine z9 ?_
  refine bc fun z9=>?_
  obtain⟨cv,e,rv⟩:=f v hv
  refine z9 ?_
  subst e
  have g':=r.hfrz _ _ g
  obtain⟨a1,a2⟩:=ok.ref i x c hx
  rcases a1 with a1 | a1
  ·exact wpAny_loadName_cell ok.fn a1 a2 ⟨_,g',d⟩ ⟨v,σ,rv,r,.refl _,q⟩
  ·exact wpAny_loadName_free ok.fn a1 a2 ⟨_,g',d⟩ ⟨v,σ,rv,r,.refl _,q⟩ (ok.dbg i x _ hx).2
theorem zrt {e:Expr}{es:List Expr}{env:Env} (h:zT e=true):starEach (e::es) env=(false,eval e env)::starEach es env:=by
 cases e<;>first | rfl | exact absurd h Bool.false_ne_true
theorem zej {C:SC}{env:Env}: ∀{es:List Ex}{xs:List Expr},zz C es xs=true→starEach xs env=xs.map fun e=>(false,eval e env)
 | [],xs,h=>by rw[za3 h];rfl
 | a::as,xs,h=>by
  obtain⟨e,es,rfl,hp,_,h⟩:=yM h
  rw[zrt hp,zej h];rfl
theorem znz {e:Expr} (h:zT e=true) (op:CmpOp):behindInMarks op e=false:=by
 cases e<;>first | rfl | exact absurd h Bool.false_ne_true
theorem zjj {C:SC}{env:Env}: ∀{es:List Ex}{xs:List Expr} (ops:List CmpOp),zz C es xs=true→markedEach ops xs (evalEach xs env)=evalEach xs env
 | [],xs,ops,h=>by
  rw[za3 h]
  cases ops with
  | nil=>rfl
  | cons o os=>cases os<;>rfl
 | a::as,xs,ops,h=>by
  obtain⟨e,es,rfl,hp,_,h⟩:=yM h
  have ih:=fun os=>zjj (env:=env) os h
  cases ops with
  | nil=>cases es<;>rfl
  | cons o os=>
   show markedEach (o::os) (e::es) (eval e env::evalEach es env)=eval e env::evalEach es env
   cases es with
   | nil=>
    cases os with
    | nil=>simp only[evalEach,markedEach,markedBehindIn_of_false (znz hp o)]
    | cons o' os=>simp only[evalEach,markedEach]
   | cons e' es=>
    have q:=ih os
    cases os with
    | nil=>simp only[evalEach,markedEach]
    | cons o' os=>
     simp only[evalEach] at q ⊢
     simp only[markedEach] at q ⊢
     rw[q]
end
section
variable {G:GS}{A:Around}{Γ:FE}{frz:Frz}{σ:St}{s:Shared}
theorem zfi (pos:Pos) (env:Env) (xs:List Expr):backTo pos (xs.map fun e=>(false,eval e env))=xs.map fun e=>(false,eval e env):=by
 unfold backTo
 rw[List.map_map]
 apply List.map_congr_left
 intro e _;rfl
theorem zm4 {f:Value}{xs:List Expr}{Q:List V→St→Prop} (h:Ws G A Γ (spliced (xs.map fun e=>(false,eval e Γ.env))) Q σ) (r:Rep G Γ frz σ s) {post:Args→Shared→Prop}
  (k: ∀cvs vs σ₁ s₁,RVs s₁.heap cvs vs→Rep G Γ frz σ₁ s₁→TK s.heap s₁.heap→Q vs σ₁→post ⟨cvs,[]⟩ s₁):
  wpAny (model G.prog G.w) A (evalArgs f true (xs.map fun e=>(false,eval e Γ.env)) []) post NoE s:=by
 cases xs with
 | nil=>
  unfold evalArgs
  show wpAny _ _ (spliced [] >>=_) _ _ s
  refine wpAny_bind (h.then r fun cvs vs σ₁ s₁ a b c d=>wpAny_bind (wpAny_pure ?_))
  refine wpAny_holding ?_
  exact wpAny_bind (wpAny_pure (wpAny_bind (wpAny_pure (wpAny_pure (k cvs vs σ₁ s₁ a b c d)))))
 | cons x xs=>exact Calls.evalArgs_plain (h.then r fun cvs vs σ₁ s₁ a b c d=>k cvs vs σ₁ s₁ a b c d)
noncomputable def Wn (G:GS) (A:Around) (Γ:FE) (n:Nat) (t:Sem (List Value)) (Q:List V→St→Prop) (σ:St):Prop:=
 ∀frz s,Rep G Γ frz σ s→wpAny (model G.prog G.w) A t (fun cvs s'=>cvs.length=n∧PVs G Γ frz s Q cvs s') NoE s
theorem Wn.ws {n:Nat}{t:Sem (List Value)}{Q:List V→St→Prop} (h:Wn G A Γ n t Q σ):Ws G A Γ t Q σ:=fun frz s r=>wpAny_mono (h frz s r) (fun _ _ q=>q.2) fun _ _ x=>x
theorem Wn.then {n:Nat}{t:Sem (List Value)}{Q:List V→St→Prop}{post:List Value→Shared→Prop} (h:Wn G A Γ n t Q σ) (r:Rep G Γ frz σ s)
  (k: ∀cv v σ₁ s₁,cv.length=n→RVs s₁.heap cv v→Rep G Γ frz σ₁ s₁→TK s.heap s₁.heap→Q v σ₁→post cv s₁):wpAny (model G.prog G.w) A t post NoE s:=
 wpAny_mono (h frz s r) (fun cv s₁ ⟨l,v,σ₁,a,b,c,d⟩=>k cv v σ₁ s₁ l a b c d) fun _ _ x=>x
theorem z6g {Q:List V→St→Prop} (q:Q [] σ):Wn G A Γ 0 (spliced []) Q σ:=fun frz s r=>Calls.spliced_nil ⟨rfl,[],σ,.nil,r,.refl _,q⟩
theorem z1j {n:Nat}{t:Sem Value}{rest:List (Bool×Sem Value)}{Q:List V→St→Prop} (h:W G A Γ t (fun v σ₁=>Wn G A Γ n (spliced rest) (fun vs σ₂=>Q (v::vs) σ₂) σ₁) σ):
  Wn G A Γ (n+1) (spliced ((false,t)::rest)) Q σ:=fun frz s r=>
 Calls.spliced_cons (h.then r fun cv v σ₁ s₁ a b c d=>d.then b fun cvs vs σ₂ s₂ l a' b' c' d'=>⟨by simp[l],v::vs,σ₂,.cons (a.tk c') a',b',c.trans c',d'⟩)
theorem zw0 {x:Str}{pos:Pos}{f:Value}{post:Value→Shared→Prop} (gok:G.ok) (ok:Γ.ok) (r:Rep G Γ frz σ s) (hx:Γ.env.kindOf x=some .globalImplicit) (hd:(x==Str.ofString "__debug__")=false)
  (e:nsIn G.K mainGlobals x=some (some f)) (h:post f s):wpAny (model G.prog G.w) A (eval (.Name x pos) Γ.env) post NoE s:=by
 refine Calls.Name_function_global ok.fn hx ?_ hd
 refine Calls.loadGlobal_global (mg:=G.mg) ?_ (mg_of gok.k gok.g e) h
 rw[ok.glb]
 exact gok.g.keeps fun b o e=>r.hfrz _ _ (r.hbase _ _ e)
theorem zt0 {b:Bi}{pos:Pos}{post:Value→Shared→Prop} (gok:G.ok) (gbi:G.bi) (ok:Γ.ok) (r:Rep G Γ frz σ s) (hx:Γ.env.kindOf (Str.ofString b.name)=some .globalImplicit) (hd:(Str.ofString b.name==Str.ofString "__debug__")=false)
  (h:post b.val s):wpAny (model G.prog G.w) A (eval (.Name (Str.ofString b.name) pos) Γ.env) post NoE s:=by
 refine Calls.Name_function_global ok.fn hx ?_ hd
 have k: ∀b o,G.base.get? b=some o→s.heap.get? b=some o:=fun b o e=>r.hfrz _ _ (r.hbase _ _ e)
 refine Calls.loadGlobal_builtin (mg:=G.mg) (mb:=G.mb) ?_ (gbi.bi b).1 ?_ (gbi.bi b).2 h
 ·rw[ok.glb];exact gok.g.keeps k
 ·rw[ok.bui];exact gok.b.keeps k
theorem zc0 (env:Env) (xs:List Expr):(xs.map fun e=>(false,eval e env)).any (·.1)=false:=by
 induction xs with
 | nil=>rfl
 | cons x xs ih=>trivial
theorem zyd {b:Bi}{pos:Pos}{args:List (Bool×Sem Value)}{post:Value→Shared→Prop}{s:Shared} (hp:args.any (·.1)=false)
  (h:wpAny (model G.prog G.w) A (evalArgs b.val true args []) (fun a s₁=>wpAny (model G.prog G.w) A (call b.val a.pos a.kw) post NoE s₁) NoE s):
  wpAny (model G.prog G.w) A (callWith pos b.val [] args []) post NoE s:=by
 cases b
 case range=>exact PyProof.Rows.callWith_type (T:="range") (first:=[]) hp h
 case list=>exact PyProof.Rows.callWith_type (T:="list") (first:=[]) hp h
 case len=>exact Calls.callWith_builtin (id:="len") (first:=[]) hp h
 case min=>exact Calls.callWith_builtin (id:="min") (first:=[]) hp h
 case max=>exact Calls.callWith_builtin (id:="max") (first:=[]) hp h
 case sum=>exact Calls.callWith_builtin (id:="sum") (first:=[]) hp h
 case chr=>exact Calls.callWith_builtin (id:="chr") (first:=[]) hp h
 case ord=>exact Calls.callWith_builtin (id:="ord") (first:=[]) hp h
theorem zdd (f:Str) (p pos:Pos) (xs:List Expr) (env:Env):eval (.Call (.Name f p) xs [] pos) env=(do
  callWith pos (←eval (.Name f p) env) [] (backTo pos (starEach xs env)) (backToKw pos (keywordEach [] env))):=rfl
theorem zze {a:Addr}{fo:Obj}{fd:FuncData} (h:Heap) (e:h.get? a=some fo) (d:fo.data= .func fd): ∃k,(k=Keeper.frame∨k=Keeper.machine∨k=Keeper.boundFrame)∧Looks (model G.prog G.w) h (keeperOf (.ref a)) k:=by
 obtain⟨c,dd,dt,sl⟩:=fo
 cases d
 exact keeps_F (q:=a) h ⟨_,_,_,_,e⟩
theorem zvd {e:Expr}{Q:Bool→St→Prop} (h:W G A Γ (eval e Γ.env) (fun v σ₁=>zK σ₁.mem v fun b=>Q b σ₁) σ)
  (he:isTrue e Γ.env (eval e Γ.env)=(do let v ←eval e Γ.env;standAt e.pos;holding [v] (truthy v))):WB G A Γ (isTrue e Γ.env (eval e Γ.env)) Q σ:=fun frz s r=>by
 rw[he]
 refine wpAny_bind (h.then r fun cv v σ₁ s₁ a b c d=>wpAny_bind (wpAny_standAt (wpAny_holding ?_)))
 exact wpAny_mono (zoy d b a) (fun b' s₂ ⟨p,q,t⟩=>⟨σ₁,p,c.trans q,t⟩) fun _ _ x=>x
theorem ztf {C:SC}{n:String}{x:Str} (hC:C.ok G Γ) (h:C.glob n x=true):x=Str.ofString n∧Γ.env.kindOf x=some .globalImplicit∧(x==Str.ofString "__debug__")=false:=by
 unfold SC.glob at h
 simp only[Bool.and_eq_true,beq_iff_eq,Bool.not_eq_true'] at h
 exact⟨h.1.1.symm,hC.names x h.1.2,h.2⟩
theorem z0y {C:SC}{i:Nat}{x:Str} (hC:C.ok G Γ) (h:C.is i x=true): ∃k,Γ.vars[i]? =some (x,k):=by
 unfold SC.is at h
 split at h
 ·rename_i y r e
  obtain⟨k,hk,_⟩:=hC.vars i y r e
  rw[beq_iff_eq.mp h] at hk
  exact⟨k,hk⟩
 ·cases h
end
section
variable {G:GS}{A:Around}{Γ:FE}{frz:Frz}{σ:St}{s:Shared}
theorem zn6 {l:List (Option V)}{i j:Nat}{v u:V} (h:(l.set i (some v))[j]? =some (some u)):(i=j∧u=v)∨(i≠j∧l[j]? =some (some u)):=by
 rw[List.getElem?_set] at h
 split at h
 ·rename_i e
  split at h
  ·cases h;exact .inl ⟨e,rfl⟩
  ·cases h
 ·rename_i e;exact .inr ⟨e,h⟩
theorem zjd {h h':Heap}{p:Value→Prop}{u:V} (tk:TK h h') (f: ∃cu,p cu∧RV h cu u): ∃cu,p cu∧RV h' cu u:=f.elim fun cu e=>⟨cu,e.1,e.2.tk tk⟩
theorem zd8 {i j:Nat}{x y:Str}{k k':VK}{v u:V} (hx:Γ.vars[i]? =some (x,k)) (hy:Γ.vars[j]? =some (y,k')) (h:k≠k') (hu:(σ.set i v).loc[j]? =some (some u)):σ.loc[j]? =some (some u):=by
 rcases zn6 hu with ⟨rfl,_⟩ | ⟨_,hu⟩
 ·exact absurd (congrArg Prod.snd (Option.some.inj (hx.symm.trans hy))) h
 ·exact hu
theorem zo8 {i:Nat}{x:Str}{k:VK}{v:V}{cv:Value} (ok:Γ.ok) (r:Rep G Γ frz σ s) (hx:Γ.vars[i]? =some (x,k)) (hk: ∀c,k≠ .ref c) (hv:RV s.heap cv v):
  wpAny (model G.prog G.w) A (storeName Γ.env x cv) (fun _ s'=>Rep G Γ frz (σ.set i v) s'∧TK s.heap s'.heap) NoE s:=by
 cases k with
 | ref c=>exact absurd rfl (hk c)
 | loc=>
  obtain⟨m,n,f⟩:=r.hns
  refine wpAny_storeName_local (ok.loc i x hx) n (fun h' hn hs=>?_) (by rw[ok.fn];rfl)
  have tk:TK s.heap h':=fun b o e im=>by
   by_cases hb:b=Γ.env.locals
   ·subst hb;exact absurd im (zer n e)
   ·exact(hs.2 b hb).trans e
  refine⟨⟨let ⟨_,_,e⟩:=r.same;⟨h',_,by rw[e]⟩,r.hbase,r.hkeep,fun b o e=>(hs.2 b (r.frz_ne e)).trans (r.hfrz b o e),fun a o e=>(r.hmem a o e).keep tk fun y ey=>(hs.2 a (r.mem_ne e)).trans ey,r.hmemF,r.hab,r.hlf,r.hlm,?_,?_,?_⟩,tk⟩
  ·refine⟨_,hn,fun j y u hy hu=>?_⟩
   rcases zn6 hu with ⟨rfl,rfl⟩ | ⟨hne,hu⟩
   ·rw[hx] at hy
    cases hy
    exact⟨cv,by simp,hv.tk tk⟩
   ·obtain⟨cu,e1,e2⟩:=f j y u hy hu
    exact⟨cu,(if_neg fun q=>hne (ok.names _ _ _ _ _ hx (q▸hy))).trans e1,e2.tk tk⟩
  ·intro j y c hy
   obtain⟨p,q,o,ov,g,d,f'⟩:=r.hown j y c hy
   exact⟨p,q,o,ov,(hs.2 c (ok.own j y c hy).2.2).trans g,d,fun u hu=>zjd tk (f' u (zd8 hx hy (fun e=>nomatch e) hu))⟩
  ·intro j y c hy
   obtain⟨o,ov,e1,d,f'⟩:=r.href j y c hy
   exact⟨o,ov,e1,d,fun u hu=>zjd tk (f' u (zd8 hx hy (fun e=>nomatch e) hu))⟩
 | own c=>
  obtain⟨p,q,o,ov,g,d,f⟩:=r.hown i x c hx
  obtain⟨a1,a2,a3⟩:=ok.own i x c hx
  refine wpAny_storeName_cell ok.fn a1 a2 ⟨o,g,d⟩ fun h' hc hs=>?_
  obtain⟨o',g',d'⟩:=hc
  have tk:TK s.heap h':=fun b ob e im=>by
   by_cases hb:b=c
   ·subst hb
    rw[g] at e;cases e
    rcases im with ⟨_,_,_,q⟩ | ⟨_,_,q,_⟩ | ⟨_,_,_,q,_⟩<;>rw[d] at q<;>cases q
   ·exact(hs.2 b hb).trans e
  have fne: ∀b ob,frz b=some ob→b≠c:=fun b ob e z=>by subst z;rw[p] at e;cases e
  have mne: ∀b ob,σ.mem b=some ob→b≠c:=fun b ob e z=>by subst z;rw[q] at e;cases e
  refine⟨⟨let ⟨_,_,e⟩:=r.same;⟨h',_,by rw[e]⟩,r.hbase,r.hkeep,fun b o e=>(hs.2 b (fne b o e)).trans (r.hfrz b o e),fun a o e=>(r.hmem a o e).keep tk fun y ey=>(hs.2 a (mne a o e)).trans ey,r.hmemF,r.hab,r.hlf,r.hlm,?_,?_,?_⟩,tk⟩
  ·obtain⟨m,n,f'⟩:=r.hns
   exact⟨m,n.sameBut hs (Ne.symm a3),fun j y u hy hu=>zjd tk (f' j y u hy (zd8 hx hy (fun e=>nomatch e) hu))⟩
  ·intro j y c' hy
   obtain⟨p',q',o₂,ov',g₂,d₂,f'⟩:=r.hown j y c' hy
   by_cases hcc:c'=c
   ·subst hcc
    have hij:i=j:=ok.cells _ _ _ _ _ hx hy
    subst hij
    refine⟨p',q',o',some cv,g',d',fun u hu=>?_⟩
    rcases zn6 hu with ⟨_,rfl⟩ | ⟨hne,hu⟩
    ·exact⟨cv,rfl,hv.tk tk⟩
    ·exact absurd rfl hne
   ·refine⟨p',q',o₂,ov',(hs.2 c' hcc).trans g₂,d₂,fun u hu=>?_⟩
    exact zjd tk (f' u (zd8 hx hy (fun e=>by injection e with e;exact hcc e.symm) hu))
  ·intro j y c' hy
   obtain⟨o,ov,e1,d,f'⟩:=r.href j y c' hy
   exact⟨o,ov,e1,d,fun u hu=>zjd tk (f' u (zd8 hx hy (fun e=>nomatch e) hu))⟩
theorem zz4 {i:Nat}{x:Str}{k:VK}{v:V}{cv:Value} (ok:Γ.ok) (r:Rep G Γ frz σ s) (hx:Γ.vars[i]? =some (x,k)) (hk: ∀c,k≠ .ref c) (hv:RV s.heap cv v):
  wpAny (model G.prog G.w) A (bindName Γ.env x cv) (fun _ s'=>Rep G Γ frz (σ.set i v) s'∧TK s.heap s'.heap) NoE s:=
 wpAny_bindName (zo8 ok r hx hk hv)
theorem zpo {n:Nat}{cv:Value}{vs:List V}{post:List Value→Shared→Prop} (hA:Rm A) (r:Rep G Γ frz σ s) (hv:RV s.heap cv (.tup vs)) (hn:vs.length=n)
  (k: ∀cvs s₁,RVs s₁.heap cvs vs→Rep G Γ frz σ s₁→TK s.heap s₁.heap→post cvs s₁):wpAny (model G.prog G.w) A (unpackItems cv n none) post NoE s:=by
 cases hv with
 | @tup a arr k' _ g rs=>
 have hz:=rs.length
 simp only[Array.length_toList] at hz
 have e:n=arr.size:=by lia
 rw[e]
 refine unpackItems_tuple hA.hd ⟨_,g,rfl,_,rfl⟩ fun h' hk=>?_
 have kk: ∀b o,s.heap.get? b=some o→h'.get? b=some o:=fun b o e=>hk b o (Nat.ne_of_lt (Heap.lt_size e)) e
 exact k _ _ (rs.tk (.of kk)) (r.grow (tk:=s.toks) kk) (.of kk)
end
inductive IterAt (h:Heap):Obj→(Mem→Prop)→List V→Prop
 | list {o:Obj} {l:Addr} {i:Nat} {vs:List V}:o.cls= .type "list_iterator"→o.data= .fields #[.ref l,.int i 0]→IterAt h o (fun m=>m l=some (.list vs)) (vs.drop i)
 | tup {o:Obj} {t:Addr} {i:Nat} {arr:Array Value} {n:Nat} {vs:List V}:o.cls= .type "tuple_iterator"→o.data= .fields #[.ref t,.int i 0]→
   h.get? t=some {cls:= .type "tuple",data:= .seq arr n}→RVs h arr.toList vs→IterAt h o (fun _=>True) (vs.drop i)
 | rng {x c:Int} {n:Nat}:IterAt h {cls:= .type "range_iterator",dict:=none,data:= .fields #[rawInt x,rawInt n,rawInt c],slots:=#[]} (fun _=>True) (zdf x c n)
 | str {o:Obj} {x:Tx} {t:Tok} {i:Nat}:o.cls= .type (strIterType (mkS x))→o.data= .fields #[.str (mkS x) t,.int i 0]→IterAt h o (fun _=>True) ((x.drop i).map fun c=>V.str [c])
theorem IterAt.tk {h h':Heap} (k:TK h h') {o:Obj}{g:Mem→Prop}{vs:List V} (i:IterAt h o g vs):IterAt h' o g vs:=by
 cases i with
 | list a b=>exact .list a b
 | tup a b c d=>exact .tup a b (k _ _ c (.inl ⟨rfl,_,_,rfl⟩)) (d.tk k)
 | rng=>exact .rng
 | str a b=>exact .str a b
theorem zk2 {o:Obj}{n:String} (h:o.cls= .type n) (h1:n≠"tuple") (h2:n≠"range") {v:Value}{i:Int}{xs:List Value} (h3:o.data= .fields (#[v,.int i 0]++xs.toArray)): ¬Imm o:=fun q=>by
 rcases q with ⟨q,_⟩ | ⟨q,_⟩ | ⟨x,ys,t,q,e⟩
 ·rw[h] at q;injection q with q;exact h1 q
 ·rw[h] at q;injection q with q;exact h2 q
 ·rw[h3] at q;cases q;simp at e
theorem IterAt.notImm {h:Heap}{o:Obj}{g:Mem→Prop}{vs:List V} (i:IterAt h o g vs): ¬Imm o:=by
 cases i with
 | list a b=>exact zk2 a (by decide) (by decide) (xs:=[]) b
 | tup a b c d=>exact zk2 a (by decide) (by decide) (xs:=[]) b
 | rng=>exact zk2 rfl (by decide) (by decide) (xs:=[_]) rfl
 | str a b=>exact zk2 a (by unfold strIterType;split<;>decide) (by unfold strIterType;split<;>decide) (xs:=[]) b
section
variable {G:GS}{A:Around}{Γ:FE}{frz:Frz}{σ:St}{s:Shared}
noncomputable def zdu (G:GS) (Γ:FE) (frz:Frz) (σ:St) (s:Shared) (it:Addr) (g:Mem→Prop):List V→Option Value→Shared→Prop
 | [],none,s'=>Rep G Γ frz σ s'∧TK s.heap s'.heap
 | v::r,some cv,s'=>RV s'.heap cv v∧Rep G Γ frz σ s'∧TK s.heap s'.heap∧∃o,s'.heap.get? it=some o∧IterAt s'.heap o g r
 | _,_,_=>False
theorem zls (r:Rep G Γ frz σ s) {it:Addr}{o:Obj}{g:Mem→Prop}{v:V}{vs:List V}{cv:Value} (d:Aside G Γ frz σ it) (ho:s.heap.get? it=some o) (ni: ¬Imm o) {h':Heap}{tk:Nat} (hs:Heap.SameBut it s.heap h')
  (k:TK s.heap h'→RV h' cv v∧∃o,h'.get? it=some o∧IterAt h' o g vs):zdu G Γ frz σ s it g (v::vs) (some cv) {s with heap:=h',toks:=tk}:=by
 obtain⟨r',t⟩:=r.aside d ho ni (h':=h') (tk:=tk) fun b o hb e=>(hs.2 b hb).trans e
 exact⟨(k t).1,r',t,(k t).2⟩
theorem zno (r:Rep G Γ frz σ s) {it:Addr}{o:Obj}{g:Mem→Prop} (d:Aside G Γ frz σ it) (ho:s.heap.get? it=some o) (ni: ¬Imm o) {h':Heap} (hs:Heap.ExtBut it s.heap h'):zdu G Γ frz σ s it g [] none {s with heap:=h'}:=
 r.aside d ho ni (h':=h') (tk:=s.toks) hs
theorem zxc {α β:Type}{l:List α}{i:Nat}{f:α→β} (h: ¬i<l.length):(l.drop i).map f=[]:=by rw[List.drop_of_length_le (Nat.le_of_not_lt h)];rfl
theorem z1g (hA:Rm A) (r:Rep G Γ frz σ s) {it l:Addr}{o:Obj}{i:Nat}{vs:List V} (d:Aside G Γ frz σ it) (ho:s.heap.get? it=some o) (ni: ¬Imm o) (a:o.cls= .type "list_iterator") (b:o.data= .fields #[.ref l,.int i 0]) (hg:σ.mem l=some (.list vs)):
  wpAny (model G.prog G.w) A (pyNext (.ref it)) (zdu G Γ frz σ s it (fun m=>m l=some (.list vs)) (vs.drop i)) NoE s:=by
 cases r.hmem l _ hg with
 | @list arr n _ e rv=>
 have hl:s.heap.IsList l arr:=⟨_,e,rfl,n,rfl⟩
 have hz:=rv.length
 rw[Array.length_toList] at hz
 by_cases hi:i<vs.length
 ·obtain⟨cv,e1,e2⟩:=rv.get (i:=i) (x:=vs[i]) (List.getElem?_eq_getElem hi)
  rw[List.drop_eq_getElem_cons hi]
  refine wpAny_pyNext_list_item ⟨o,ho,a,b⟩ hl (x:=cv) (by rw[←Array.getElem?_toList];exact e1) fun h' hit' hs=>zls r d ho ni hs fun t=>⟨e2.tk t,?_⟩
  exact hit'.elim fun o' q=>⟨o',q.1,.list q.2.1 q.2.2⟩
 ·rw[List.drop_of_length_le (Nat.le_of_not_lt hi)]
  exact wpAny_pyNext_list_end hA.hd ⟨o,ho,a,b⟩ hl (Array.getElem?_eq_none (hz▸Nat.le_of_not_lt hi)) fun h' hs=>zno r d ho ni hs
theorem z4r (hA:Rm A) (r:Rep G Γ frz σ s) {it l:Addr}{o:Obj}{i:Nat}{arr:Array Value}{n:Nat}{vs:List V} (d:Aside G Γ frz σ it) (ho:s.heap.get? it=some o) (ni: ¬Imm o) (a:o.cls= .type "tuple_iterator") (b:o.data= .fields #[.ref l,.int i 0])
  (e:s.heap.get? l=some {cls:= .type "tuple",data:= .seq arr n}) (rv:RVs s.heap arr.toList vs):wpAny (model G.prog G.w) A (pyNext (.ref it)) (zdu G Γ frz σ s it (fun _=>True) (vs.drop i)) NoE s:=by
 have hl:IsTup s.heap l arr:=⟨_,e,rfl,n,rfl⟩
 have hz:=rv.length
 rw[Array.length_toList] at hz
 by_cases hi:i<vs.length
 ·obtain⟨cv,e1,e2⟩:=rv.get (i:=i) (x:=vs[i]) (List.getElem?_eq_getElem hi)
  rw[List.drop_eq_getElem_cons hi]
  refine next_tuple_item ⟨o,ho,a,b⟩ hl (x:=cv) (by rw[←Array.getElem?_toList];exact e1) fun h' hit' hs=>zls r d ho ni hs fun t=>⟨e2.tk t,?_⟩
  exact hit'.elim fun o' q=>⟨o',q.1,.tup q.2.1 q.2.2 (t _ _ e (.inl ⟨rfl,_,_,rfl⟩)) (rv.tk t)⟩
 ·rw[List.drop_of_length_le (Nat.le_of_not_lt hi)]
  exact next_tuple_end hA.hd ⟨o,ho,a,b⟩ hl (Array.getElem?_eq_none (hz▸Nat.le_of_not_lt hi)) fun h' hs=>zno r d ho ni hs
theorem z30 {x:Str}:strIterType x="str_ascii_iterator"∨strIterType x="str_iterator":=by
 unfold strIterType;split
 ·exact .inl rfl
 ·exact .inr rfl
theorem z4t (hA:Rm A) (r:Rep G Γ frz σ s) {it:Addr}{o:Obj}{i:Nat}{x:Tx}{t:Tok} (d:Aside G Γ frz σ it) (ho:s.heap.get? it=some o) (ni: ¬Imm o) (a:o.cls= .type (strIterType (mkS x))) (b:o.data= .fields #[.str (mkS x) t,.int i 0]):
  wpAny (model G.prog G.w) A (pyNext (.ref it)) (zdu G Γ frz σ s it (fun _=>True) ((x.drop i).map fun c=>V.str [c])) NoE s:=by
 have hx: ∀j:Nat,(mkS x).cps[j]? =(x[j]?).map Char.toNat:=fun j=>by simp
 have ty:=z30 (x:=mkS x)
 by_cases hi:i<x.length
 ·have hc:(mkS x).cps[i]? =some (x[i]).toNat:=by rw[hx,List.getElem?_eq_getElem hi];rfl
  rw[List.drop_eq_getElem_cons hi,List.map_cons]
  have fin: ∀h',(∃o,h'.get? it=some o∧o.cls= .type (strIterType (mkS x))∧o.data= .fields #[.str (mkS x) t,.int ((i+1:Nat):Int) 0])→Heap.SameBut it s.heap h'→
    zdu G Γ frz σ s it (fun _=>True) (V.str [x[i]]::(x.drop (i+1)).map fun c=>V.str [c]) (some (.str ⟨#[(x[i]).toNat]⟩ s.toks)) {s with heap:=h',toks:=s.toks+1}:=fun h' hit' hs=>
   zls r d ho ni hs fun _=>⟨.str [x[i]] _,hit'.elim fun o' q=>⟨o',q.1,.str q.2.1 q.2.2⟩⟩
  rcases ty with st | st<;>rw[st] at a fin
  ·exact wpAny_pyNext_ascii_item ⟨o,ho,a,b⟩ hc fun h' hit' hs=>fin h' hit' hs
  ·exact wpAny_pyNext_wide_item ⟨o,ho,a,b⟩ hc fun h' hit' hs=>fin h' hit' hs
 ·have hc:(mkS x).cps[i]? =none:=by rw[hx,List.getElem?_eq_none (Nat.le_of_not_lt hi)];rfl
  rw[zxc hi]
  rcases ty with st | st<;>rw[st] at a
  ·exact wpAny_pyNext_ascii_end hA.hd ⟨o,ho,a,b⟩ hc fun h' hs=>zno r d ho ni hs
  ·exact wpAny_pyNext_wide_end hA.hd ⟨o,ho,a,b⟩ hc fun h' hs=>zno r d ho ni hs
theorem zjk (hA:Rm A) (r:Rep G Γ frz σ s) {it:Addr}{o:Obj}{g:Mem→Prop}{vs:List V} (d:Aside G Γ frz σ it) (ho:s.heap.get? it=some o) (i:IterAt s.heap o g vs) (hg:g σ.mem):
  wpAny (model G.prog G.w) A (pyNext (.ref it)) (zdu G Γ frz σ s it g vs) NoE s:=by
 have ni:=i.notImm
 cases i with
 | list a b=>exact z1g hA r d ho ni a b hg
 | tup a b e rv=>exact z4r hA r d ho ni a b e rv
 | @rng x c n=>
  cases n with
  | zero=>exact wpAny_pyNext_range_end hA.hd ho (Int.le_refl 0) fun h' hs=>zno r d ho ni hs
  | succ n=>
   refine wpAny_pyNext_range_item ho (by exact zw 4300668977 rfl) fun h' hit' hs=>zls r d ho ni hs fun _=>⟨.int _ _,_,hit',?_⟩
   rw[show(((n+1:Nat):Int)-1)=(n:Int) by exact Int.le_antisymm (zw 8280965740080 rfl) (zw 35459616480816 rfl)]
   exact .rng
 | str a b=>exact z4t hA r d ho ni a b
noncomputable def zp2 (G:GS) (Γ:FE) (frz:Frz) (σ:St) (s:Shared) (g:Mem→Prop) (vs:List V):Value→Shared→Prop:=
 fun cv s'=> ∃it o,cv= .ref it∧Rep G Γ frz σ s'∧TK s.heap s'.heap∧Aside G Γ frz σ it∧s'.heap.get? it=some o∧IterAt s'.heap o g vs
theorem zgg (r:Rep G Γ frz σ s) {o:Obj}{g:Mem→Prop}{vs:List V} (fr:o.isFreed=false) (i:IterAt s.heap o g vs):zp2 G Γ frz σ s g vs (.ref s.heap.objs.size) {s with heap:=s.heap.push o}:=by
 have k: ∀b ob,s.heap.get? b=some ob→(s.heap.push o).get? b=some ob:=fun b ob e=>Heap.get?_push_of_some _ e
 exact⟨_,o,rfl,r.grow (tk:=s.toks) k,.of k,r.asideNew (Nat.le_refl _),Heap.get?_push_size _ fr,i.tk (.of k)⟩
theorem zhj (a b:Int) {c:Int} (h0:0<c):0≤Builtin.Range.rangeSize a b c:=by
 unfold Builtin.Range.rangeSize
 rw[if_pos h0]
 split
 ·have:=Int.ediv_nonneg (a:=b-a-1) (b:=c) (by lia) (by exact zsc 550158532641 rfl h0)
  exact zsc 4509097588228128 rfl this
 ·exact zsk 48 rfl
theorem zwb {a b c:Int} (ha:tiny a) (hb:tiny b) (hc:tiny c) (h0:0<c):Builtin.Range.small a b c=true:=by
 have h1:=zhj a b h0
 have h2:Builtin.Range.rangeSize a b c≤2000000000:=by
  unfold Builtin.Range.rangeSize
  rw[if_pos h0]
  unfold tiny at *
  split
  ·have:(b-a-1)/c≤b-a-1:=by
    have:=Int.ediv_le_self (a:=b-a-1) c (by lia)
    omega
   exact ar03 26723568010873266841008566985713250980116463494949816058378592700337185 rfl ha.1 hb.2 this
  ·exact zsk 1116028273550164016 rfl
 unfold tiny at *
 unfold Builtin.Range.small Builtin.Range.rangeFitsLong
 simp only[Bool.and_eq_true,Bool.or_eq_true,decide_eq_true_eq,beq_iff_eq]
 refine⟨⟨⟨⟨⟨?_,?_⟩,⟨?_,?_⟩⟩,⟨?_,?_⟩⟩,⟨?_,?_⟩⟩,.inr ?_⟩<;>first | grind | skip
 rw[if_pos h0]
 simp only[Bool.and_eq_true,decide_eq_true_eq]
 grind
theorem zjo (r:Rep G Γ frz σ s) {cv:Value}{v:V} (hv:RV s.heap cv v) {K:List V→(Mem→Prop)→Prop} (w:yG σ.mem v K):
  ∃vs g,K vs g∧wpAny (model G.prog G.w) A (pyIter cv) (zp2 G Γ frz σ s g vs) NoE s:=by
 cases hv with
 | none=>exact w.elim
 | bool=>exact w.elim
 | int=>exact w.elim
 | flt=>exact w.elim
 | str x t=>exact⟨_,_,w.2,wpAny_pyIter_strU (zgg r rfl (.str (i:=0) rfl rfl))⟩
 | tup e rv=>exact⟨_,_,w.2,iter_tuple ⟨_,e,rfl,_,rfl⟩ (zgg r rfl (.tup (i:=0) rfl rfl e rv))⟩
 | @rng l a b c t u v e=>
  obtain⟨h1,h2,h3,h4,w⟩:=w
  refine⟨_,_,w,wpAny_pyIter_range e (zwb h1 h2 h3 h4) ?_⟩
  have hn:(Builtin.Range.rangeSize a b c)=((Builtin.Range.rangeSize a b c).toNat:Int):=(Int.toNat_of_nonneg (zhj a b h4)).symm
  rw[hn]
  exact zgg r rfl .rng
 | obj a=>
  obtain⟨vs,hm,_,w⟩:=w
  cases r.hmem a _ hm with
  | @list arr n _ e rv=>exact⟨_,_,w,wpAny_pyIter_list ⟨_,e,rfl,n,rfl⟩ (zgg r rfl (.list (i:=0) rfl rfl))⟩
theorem zj3 {E:Value→Shared→Prop}{target:Expr}{it:Addr}{cv:Value}{o:Obj}{g:Mem→Prop}{vs:List V}{post:Unit→Shared→Prop} (ho:s.heap.get? it=some o) (i:IterAt s.heap o g vs) (q:post () s):
  wpAny (model G.prog G.w) A (letOwnedTupleGo target (.ref it) cv) post E s:=by
 have hh: ∃n fs,o.cls= .type n∧o.data= .fields fs∧(["enumerate","zip","dict_itemiterator","dict_reverseitemiterator","odict_iterator","itertools.zip_longest","itertools.pairwise"].contains n)=false:=by
  cases i with
  | list a b=>exact⟨_,_,a,b,by decide⟩
  | tup a b _ _=>exact⟨_,_,a,b,by decide⟩
  | rng=>exact⟨_,_,rfl,rfl,by decide⟩
  | str a b=>refine⟨_,_,a,b,?_⟩;unfold strIterType;split<;>decide
 obtain⟨n,fs,hc,hd,hn⟩:=hh
 have main:wpAny (model G.prog G.w) A (do
  let (.ref r,.ref a):=(Value.ref it,cv) | return
  let o ←load r
  match o.cls,o.data with
  | .type n,.fields vs=>
   if ["enumerate","zip","dict_itemiterator","dict_reverseitemiterator","odict_iterator","itertools.zip_longest","itertools.pairwise"].contains n&&vs[0]? ==some (rawInt a) then
    rule "for.unpacks-the-owned-tuple"
    updateField r 0 .none
  | _,_=>pure ()) post E s:=by
  cases cv with
  | ref b=>
   refine wpAny_bind (wpAny_load ho ?_)
   rw[hc,hd]
   dsimp only
   rw[hn,Bool.false_and,if_neg (by decide)]
   exact wpAny_pure q
  | _=>exact wpAny_pure q
 cases target<;>first | exact main | exact wpAny_pure q
end
theorem zni {C:SC}{xs:List Expr} (h:zgx C [] xs=true):xs=[]:=by
 cases xs with
 | nil=>rfl
 | cons=>cases h
theorem zku {C:SC}{i:Nat}{is:List Nat}{xs:List Expr} (h:zgx C (i::is) xs=true): ∃n p es,xs= .Name n p::es∧C.isW i n=true∧zgx C is es=true:=by
 cases xs with
 | nil=>cases h
 | cons e es=>
  exact zez (e:=e) (K:=fun x=>C.isW i x&&zgx C is es) (M:=fun e=> ∃n p es',e::es= .Name n p::es'∧C.isW i n=true∧zgx C is es'=true) h fun n p q=>⟨n,p,es,rfl,zb q⟩
section
variable {G:GS}{A:Around}{Γ:FE}{frz:Frz}{σ:St}{s:Shared}
theorem zts {C:SC}{i:Nat}{x:Str} (hC:C.ok G Γ) (h:C.isW i x=true): ∃k,Γ.vars[i]? =some (x,k)∧∀c,k≠ .ref c:=by
 unfold SC.isW at h
 split at h
 ·rename_i y r e
  simp only[Bool.and_eq_true,beq_iff_eq,Bool.not_eq_true'] at h
  obtain⟨rfl,rfl⟩:=h
  obtain⟨k,a,b⟩:=hC.vars _ _ _ e
  exact⟨k,a,b rfl⟩
 ·cases h
noncomputable def zn3 (G:GS) (A:Around) (Γ:FE) (f:Value→Sem Unit) (i:Nat):Prop:=
 ∀frz σ s v cv,Rep G Γ frz σ s→RV s.heap cv v→wpAny (model G.prog G.w) A (f cv) (fun _ s'=>Rep G Γ frz (σ.set i v) s'∧TK s.heap s'.heap) NoE s
inductive Bs (G:GS) (A:Around) (Γ:FE):List (Value→Sem Unit)→List Nat→Prop
 | nil:Bs G A Γ [] []
 | cons {f i fs is}:zn3 G A Γ f i→Bs G A Γ fs is→Bs G A Γ (f::fs) (i::is)
theorem Bs.length {fs:List (Value→Sem Unit)}{is:List Nat} (b:Bs G A Γ fs is):fs.length=is.length:=by
 induction b with
 | nil=>rfl
 | cons _ _ ih=>simp[ih]
theorem Bs.append {fs fs':List (Value→Sem Unit)}{is is':List Nat} (b:Bs G A Γ fs is) (c:Bs G A Γ fs' is'):Bs G A Γ (fs++fs') (is++is'):=by
 induction b with
 | nil=>exact c
 | cons h _ ih=>exact .cons h ih
theorem Bs.reverse {fs:List (Value→Sem Unit)}{is:List Nat} (b:Bs G A Γ fs is):Bs G A Γ fs.reverse is.reverse:=by
 induction b with
 | nil=>exact .nil
 | cons h _ ih=>rw[List.reverse_cons,List.reverse_cons];exact ih.append (.cons h .nil)
theorem RVs.reverse {h:Heap}: ∀{cvs:List Value}{vs:List V},RVs h cvs vs→RVs h cvs.reverse vs.reverse
 | _,[],r=>r.e0 .nil
 | _,_::_,r=>r.eC (N:=fun cs=>RVs h cs.reverse _) fun _ _ a b=>by rw[List.reverse_cons,List.reverse_cons];exact b.reverse.append (.one a)
theorem zqt {fs:List (Value→Sem Unit)}{is:List Nat} (b:Bs G A Γ fs is): ∀{cvs:List Value}{vs:List V}{σ:St}{s:Shared}{post:Unit→Shared→Prop},Rep G Γ frz σ s→RVs s.heap cvs vs→is.length=vs.length→
  (∀s',Rep G Γ frz (σ.setAll is vs) s'→TK s.heap s'.heap→post () s')→wpAny (model G.prog G.w) A (assignInOrder fs cvs) post NoE s:=by
 induction b with
 | nil=>
  intro cvs vs σ s post r hv hl k
  cases vs with
  | nil=>cases hv;exact wpAny_pure (k s r (.refl _))
  | cons=>simp at hl
 | cons h _ ih=>
  intro cvs vs σ s post r hv hl k
  cases hv with
  | nil=>simp at hl
  | cons a rs=>
   refine wpAny_bind (wpAny_holding (wpAny_mono (h _ _ _ _ _ r a) (fun _ s₁ ⟨r₁,t₁⟩=>?_) fun _ _ x=>x))
   exact ih r₁ (rs.tk t₁) (by simpa using hl) fun s' r' t'=>k s' r' (t₁.trans t')
theorem zhm {C:SC}{i:Nat}{x:Str}{pos:Pos} (ok:Γ.ok) (hC:C.ok G Γ) (h:C.isW i x=true):zn3 G A Γ (assign (.Name x pos) Γ.env) i:=fun frz σ s v cv r hv=>by
 obtain⟨k,hx,hk⟩:=zts hC h
 rw[arm_assign_Name]
 exact wpAny_bind (wpAny_standAt (zz4 ok r hx hk hv))
theorem zrk {C:SC}{i:Nat}{x:Str} (ok:Γ.ok) (hC:C.ok G Γ) (h:C.isW i x=true):zn3 G A Γ (bindName Γ.env x) i:=fun frz σ s v cv r hv=>by
 obtain⟨k,hx,hk⟩:=zts hC h
 exact zz4 ok r hx hk hv
theorem zra {C:SC} (ok:Γ.ok) (hC:C.ok G Γ): ∀{is:List Nat}{xs:List Expr},zgx C is xs=true→Bs G A Γ ((assignEach xs Γ.env).map (·.2)) is∧(assignEach xs Γ.env).findIdx? (·.1)=none
 | [],xs,h=>by rw[zni h];exact⟨.nil,rfl⟩
 | i::is,xs,h=>by
  obtain⟨n,pos,es,rfl,h1,h2⟩:=zku h
  obtain⟨a,b⟩:=zra ok hC h2
  have e:assignEach (.Name n pos::es) Γ.env=(false,assign (.Name n pos) Γ.env)::assignEach es Γ.env:=rfl
  refine⟨?_,?_⟩
  ·rw[e];exact .cons (zhm ok hC h1) a
  ·rw[e,List.findIdx?_cons,b];rfl
noncomputable def yS (f:Str→Pos→Bool):Expr→Option Str
 | .Name id pos=>if f id pos then some id else none
 | _=>none
theorem zpp {C:SC} (ok:Γ.ok) (hC:C.ok G Γ) (f:Str→Pos→Bool): ∀{is:List Nat}{xs:List Expr},zgx C is xs=true→(xs.filterMap (yS f)).length=xs.length→Bs G A Γ ((xs.filterMap (yS f)).map (bindName Γ.env)) is
 | [],xs,h,_=>by rw[zni h];exact .nil
 | i::is,xs,h,hf=>by
  obtain⟨n,pos,es,rfl,h1,h2⟩:=zku h
  have:=List.length_filterMap_le (yS f) es
  rw[List.filterMap_cons] at hf ⊢
  unfold yS at hf ⊢
  dsimp only at hf ⊢
  by_cases c:f n pos=true
  ·rw[if_pos c] at hf ⊢
   have hh:(es.filterMap (yS f)).length+1=es.length+1:=hf
   exact .cons (zrk ok hC h1) (zpp ok hC f h2 (by exact Nat.le_antisymm (zc 4952567644712 rfl this) (zc 5193143506293494827 rfl hh)))
  ·rw[if_neg c] at hf ⊢
   have hh:(es.filterMap (yS f)).length=es.length+1:=hf
   omega
theorem zvb {C:SC}{i:Nat}{e:Expr} (ok:Γ.ok) (hC:C.ok G Γ) (h:(zc3 e fun n=>C.isW i n)=true) {v:V}{cv:Value}{Q:St→Prop}{σ:St} (w:Q (σ.set i v))
  (r:Rep G Γ frz σ s) (hv:RV s.heap cv v):wpAny (model G.prog G.w) A (assign e Γ.env cv) (PU G Γ frz s Q) NoE s:=
 zez (e:=e) (K:=fun n=>C.isW i n) (M:=fun e=>wpAny (model G.prog G.w) A (assign e Γ.env cv) (PU G Γ frz s Q) NoE s) h fun n p q=>wpAny_mono (zhm ok hC q _ _ _ _ _ r hv) (fun _ s₁ ⟨a,b⟩=>⟨_,a,b,w⟩) fun _ _ x=>x
theorem zz0 {C:SC}{is:List Nat}{e:Expr} (hA:Rm A) (ok:Γ.ok) (hC:C.ok G Γ) (h:(isTup e fun xs=>zgb is&&zgx C is xs)=true) {v:V}{cv:Value}{Q:St→Prop}{σ:St} (w:match v with | .tup vs=>vs.length=is.length∧Q (σ.setAll is vs) | _=>False)
  (r:Rep G Γ frz σ s) (hv:RV s.heap cv v):wpAny (model G.prog G.w) A (assign e Γ.env cv) (PU G Γ frz s Q) NoE s:=
 zlo (e:=e) (K:=fun xs=>zgb is&&zgx C is xs) (M:=fun e=>wpAny (model G.prog G.w) A (assign e Γ.env cv) (PU G Γ frz s Q) NoE s) h fun xs k p q=>by
  obtain⟨b1,b2⟩:=zra (A:=A) ok hC (zb q).2
  obtain⟨vs,rfl,hl,w⟩:=zu3 w
  rw[arm_assign_Tuple]
  refine wpAny_bind (wpAny_standAt ?_)
  unfold unpack
  rw[b2]
  have hn:=b1.length
  rw[List.length_map] at hn
  exact wpAny_bind (wpAny_holding (zpo hA r hv (hl.trans hn.symm) fun cvs s₁ rs r₁ t₁=>zqt b1 r₁ rs hl.symm fun s' r' t'=>⟨_,r',t₁.trans t',w⟩))
theorem zk9 {C:SC}{one:Bool}{is:List Nat}{e:Expr} (hA:Rm A) (ok:Γ.ok) (hC:C.ok G Γ) (h:zav C one is e=true) {v:V}{cv:Value}{Q:St→Prop}{σ:St} (w:yC one is v Q σ)
  (r:Rep G Γ frz σ s) (hv:RV s.heap cv v):wpAny (model G.prog G.w) A (assign e Γ.env cv) (PU G Γ frz s Q) NoE s:=
 match one,is,h,w with
 | true,[],_,w=>False.elim w
 | true,[_],h,w=>zvb ok hC h w r hv
 | true,_::_::_,_,w=>False.elim w
 | false,_,h,w=>zz0 hA ok hC h w r hv
end
theorem zcw: ∀{xs:List Str},zkq xs=true→xs.Nodup
 | [],_=>List.nodup_nil
 | x::xs,h=>by
  simp only[zkq,Bool.and_eq_true,Bool.not_eq_true',List.contains_eq_mem,decide_eq_false_iff_not] at h
  exact List.nodup_cons.mpr ⟨h.1,zcw h.2⟩
theorem zF {β:Type}{x:Str}{k:β}: ∀{l:List (Str×β)},(l.map (·.1)).Nodup→(x,k)∈l→l.lookup x=some k
 | [],_,h=>by cases h
 | (y,d)::l,hn,h=>by
  rw[List.map_cons,List.nodup_cons] at hn
  rcases List.mem_cons.mp h with e | h
  ·cases e;simp[List.lookup]
  ·have:x≠y:=fun q=>hn.1 (List.mem_map.mpr ⟨(x,k),h,q⟩)
   rw[List.lookup_cons,beq_eq_false_iff_ne.mpr this]
   exact zF hn.2 h
theorem zlk {names:List (Str×NameKind)}{x:Str} (h:x∈zqk names):(x,NameKind.local)∈names:=by
 unfold zqk at h
 obtain⟨⟨y,k⟩,h1,h2⟩:=List.mem_filterMap.mp h
 split at h2
 ·rename_i c
  cases h2
  simp only[Bool.and_eq_true,beq_iff_eq] at c
  rw[←c.1];exact h1
 ·exact(Option.some_ne_none _ h2.symm).elim
theorem zii {names:List (Str×NameKind)}{x:Str} (h:x∈yK names):(x,NameKind.free)∈names:=by
 unfold yK at h
 obtain⟨⟨y,k⟩,h1,h2⟩:=List.mem_filterMap.mp h
 split at h2
 ·rename_i c
  cases h2
  rw[beq_iff_eq] at c
  rw[←c];exact h1
 ·exact(Option.some_ne_none _ h2.symm).elim
theorem zld: ∀names:List (Str×NameKind),(zqk names).Sublist (names.map (·.1))
 | []=> .slnil
 | (x,k)::r=>by
  unfold zqk
  rw[List.filterMap_cons,List.map_cons]
  split
  ·exact(zld r).cons _
  ·rename_i b e
   split at e
   ·cases e;exact(zld r).cons_cons _
   ·cases e
theorem zig: ∀names:List (Str×NameKind),(yK names).Sublist (names.map (·.1))
 | []=> .slnil
 | (x,k)::r=>by
  unfold yK
  rw[List.filterMap_cons,List.map_cons]
  split
  ·exact(zig r).cons _
  ·rename_i b e
   split at e
   ·cases e;exact(zig r).cons_cons _
   ·cases e
noncomputable def zce (env:Env) (names:List (Str×NameKind)):List (Str×Addr):=((yK names).map fun x=>(x,(env.cells.lookup x).getD 0)).reverse
theorem zdt {env:Env}: ∀(names:List (Str×NameKind)) (acc:List (Str×Addr)),(∀x∈yK names,(env.cells.lookup x).isSome=true)→
  (forIn (m:=Sem) names acc fun p cs=>(if p.2==NameKind.free then(do let a ←cellOf env p.1;pure (ForInStep.yield ((p.1,a)::cs))) else pure (ForInStep.yield cs)))=pure (zce env names++acc)
 | [],acc,_=>by rw[List.forIn_nil];rfl
 | (x,k)::r,acc,h=>by
  rw[List.forIn_cons]
  cases hk:k==NameKind.free with
  | true=>
   have e:yK ((x,k)::r)=x::yK r:=by unfold yK;rw[List.filterMap_cons];simp[hk]
   rw[e] at h
   have hx:=h x List.mem_cons_self
   obtain⟨c,hc0⟩:=Option.isSome_iff_exists.mp hx
   have hc:cellOf env x=pure c:=by unfold cellOf;rw[hc0]
   simp only[hk,if_true,hc,pure_bind]
   rw[zdt r _ fun y hy=>h y (List.mem_cons_of_mem _ hy)]
   unfold zce
   rw[e,List.map_cons,List.reverse_cons,hc0,List.append_assoc];rfl
  | false=>
   have e:yK ((x,k)::r)=yK r:=by unfold yK;rw[List.filterMap_cons];simp[hk]
   rw[e] at h
   simp only[hk,Bool.false_eq_true,if_false,pure_bind]
   rw[zdt r _ h]
   unfold zce;rw[e]
theorem zop {scope:Scope}{env:Env} (h: ∀x∈yK scope.names,(env.cells.lookup x).isSome=true):closureFor scope env=pure (zce env scope.names):=by
 unfold closureFor
 have:=zdt scope.names [] h
 simpa using this
theorem zrx {env:Env}{names:List (Str×NameKind)} (hn:(yK names).Nodup) {x:Str} (hx:x∈yK names):(zce env names).lookup x=some ((env.cells.lookup x).getD 0):=by
 have hf:((fun p:Str×Addr=>p.1) ∘ fun x=>(x,(env.cells.lookup x).getD 0))=id:=rfl
 refine zF ?_ ?_
 ·unfold zce
  rw[List.map_reverse,List.map_map,hf,List.map_id]
  exact(List.reverse_perm _).nodup_iff.mpr hn
 ·unfold zce
  rw[List.mem_reverse]
  exact List.mem_map.mpr ⟨x,hx,rfl⟩
section
variable {G:GS}{A:Around}{Γ:FE}{frz:Frz}{σ:St}{s:Shared}{C:SC}
noncomputable def zds (env:Env) (names:List (Str×NameKind)):List (Str×VK):=(zqk names).map (·,.loc)++(yK names).map fun x=>(x,.ref ((env.cells.lookup x).getD 0))
noncomputable def zcf (Γ:FE) (sc:Scope) (L:Addr):FE:=⟨compEnvC sc (zce Γ.env sc.names) L Γ.env,zds Γ.env sc.names⟩
theorem zo4: ∀{caps:List Nat}{xs:List Str},znw C caps xs=true→caps.length=xs.length∧∀(j:Nat) x,xs[j]? =some x→∃i,caps[j]? =some i∧C.is i x=true∧C.cells.contains x=true
 | [],xs,h=>by
  cases xs with
  | nil=>exact⟨rfl,fun j x e=>by simp at e⟩
  | cons=>cases h
 | i::is,xs,h=>by
  cases xs with
  | nil=>cases h
  | cons x xs=>
   replace h:(C.is i x&&C.cells.contains x&&znw C is xs)=true:=h
   simp only[Bool.and_eq_true] at h
   obtain⟨a,b⟩:=zo4 h.2
   refine⟨by simp[a],fun j y e=>?_⟩
   cases j with
   | zero=>simp only[List.getElem?_cons_zero,Option.some.injEq] at e;subst e;exact⟨i,rfl,h.1⟩
   | succ j=>exact b j y (by simpa using e)
theorem zpl (ok:Γ.ok) (hC:C.ok G Γ) {i:Nat}{x:Str} (h:C.is i x=true) (hc:C.cells.contains x=true):
  ∃c,Γ.env.cells.lookup x=some c∧(Γ.vars[i]? =some (x,.own c)∨Γ.vars[i]? =some (x,.ref c)):=by
 obtain⟨k,hk⟩:=z0y hC h
 cases k with
 | loc=>exact absurd hk (hC.cells _ _ (List.contains_iff_mem.mp hc))
 | own c=>exact⟨c,(ok.own _ _ _ hk).2.1,.inl hk⟩
 | ref c=>exact⟨c,(ok.ref _ _ _ hk).2,.inr hk⟩
structure CompOk (C:SC) (sc:Scope) (n:Nat) (caps:List Nat):Prop where
 kind:sc.kind= .function
 len:(zqk sc.names).length=n
 caps:znw C caps (yK sc.names)=true
 nd:(sc.names.map (·.1)).Nodup
 all: ∀p∈sc.names,(p.2= .local∨p.2= .free∨p.2= .globalImplicit)∧(p.1==Str.ofString "__debug__")=false∧(p.1==Str.ofString "__classdict__")=false
theorem zby {sc:Scope}{n:Nat}{caps:List Nat} (h:zgk C sc n caps=true):CompOk C sc n caps:=by
 unfold zgk at h
 simp only[Bool.and_eq_true,beq_iff_eq,List.all_eq_true,Bool.or_eq_true,Bool.not_eq_true'] at h
 exact⟨h.1.1.1.1,h.1.1.1.2,h.1.1.2,zcw h.1.2,fun p hp=>⟨by rcases (h.2 p hp).1.1 with (q | q) | q<;>simp[q],(h.2 p hp).1.2,(h.2 p hp).2⟩⟩
theorem zjh (ok:Γ.ok) (hC:C.ok G Γ) {sc:Scope}{n:Nat}{caps:List Nat} (h:CompOk C sc n caps): ∀x∈yK sc.names,(Γ.env.cells.lookup x).isSome=true:=fun x hx=>by
 obtain⟨j,hj,e⟩:=List.getElem_of_mem hx
 obtain⟨i,_,h1,h2⟩:=(zo4 h.caps).2 j x (by rw[List.getElem?_eq_getElem hj,e])
 obtain⟨c,hc,_⟩:=zpl ok hC h1 h2
 rw[hc];rfl
theorem zhs {env:Env}{x:Str}: ∀{names:List (Str×NameKind)},names.lookup x=some .free→
  (names.map fun(n,k)=>if (k==NameKind.free&&env.scope.kind== .function&&env.kindOf n==some .cell) then(n,NameKind.cell) else(n,k)).lookup x=some .cell∨
  (names.map fun(n,k)=>if (k==NameKind.free&&env.scope.kind== .function&&env.kindOf n==some .cell) then(n,NameKind.cell) else(n,k)).lookup x=some .free
 | [],h=>by cases h
 | (n,k)::r,h=>by
  rw[List.map_cons]
  simp only[List.lookup_cons] at h
  cases hx:x==n with
  | true=>
   rw[hx] at h;cases h
   dsimp only
   split
   ·left;rw[List.lookup_cons,hx]
   ·right;rw[List.lookup_cons,hx]
  | false=>
   rw[hx] at h
   have ih:=zhs (env:=env) h
   dsimp only
   split<;>(rw[List.lookup_cons,hx];exact ih)
theorem zhk {env:Env}{x:Str}: ∀{names:List (Str×NameKind)},names.lookup x=some .globalImplicit→
  (names.map fun(n,k)=>if (k==NameKind.free&&env.scope.kind== .function&&env.kindOf n==some .cell) then(n,NameKind.cell) else(n,k)).lookup x=some .globalImplicit
 | [],h=>by cases h
 | (n,k)::r,h=>by
  rw[List.map_cons]
  simp only[List.lookup_cons] at h
  cases hx:x==n with
  | true=>
   rw[hx] at h;cases h
   dsimp only
   rw[if_neg (by simp),List.lookup_cons,hx]
  | false=>
   rw[hx] at h
   have ih:=zhk (env:=env) h
   dsimp only
   split<;>(rw[List.lookup_cons,hx];exact ih)
theorem cvg {env:Env}{names:List (Str×NameKind)}{i:Nat}{x:Str}{k:VK} (h:(zds env names)[i]? =some (x,k)):
  (k= .loc∧(zqk names)[i]? =some x)∨(∃j,i=(zqk names).length+j∧(yK names)[j]? =some x∧k= .ref ((env.cells.lookup x).getD 0)):=by
 unfold zds at h
 by_cases hi:i<(zqk names).length
 ·rw[List.getElem?_append_left (by simpa using hi),List.getElem?_map,Option.map_eq_some_iff] at h
  obtain⟨y,a,b⟩:=h
  cases b;exact .inl ⟨rfl,a⟩
 ·rw[List.getElem?_append_right (by simpa using hi),List.length_map,List.getElem?_map,Option.map_eq_some_iff] at h
  obtain⟨y,a,b⟩:=h
  cases b;exact .inr ⟨_,by exact Nat.le_antisymm (zf 5265838744531501611 rfl (Nat.sub_add_cancel (zc 4952567644716 rfl hi))) (zf 9804662326409303082 rfl (Nat.sub_add_cancel (zc 4952567644716 rfl hi))),a,rfl⟩
theorem z23 (ok:Γ.ok) (hC:C.ok G Γ) {sc:Scope}{n:Nat}{caps:List Nat} (h:CompOk C sc n caps) (L:Addr):(zcf Γ sc L).ok:=by
 have hloc: ∀x,x∈zqk sc.names→sc.names.lookup x=some .local:=fun x hx=>zF h.nd (zlk hx)
 have hfree: ∀x,x∈yK sc.names→sc.names.lookup x=some .free:=fun x hx=>zF h.nd (zii hx)
 have ndl:=h.nd.sublist (zld sc.names)
 have ndf:=h.nd.sublist (zig sc.names)
 refine⟨h.kind,ok.glb,ok.bui,?_,?_,?_,?_,?_,?_⟩
 ·intro i x hx
  rcases cvg hx with ⟨_,a⟩ | ⟨j,_,_,e⟩
  ·exact lookup_relabel_local (hloc x (List.mem_of_getElem? a))
  ·cases e
 ·intro i x c hx
  rcases cvg hx with ⟨e,_⟩ | ⟨j,_,_,e⟩<;>cases e
 ·intro i x c hx
  rcases cvg hx with ⟨e,_⟩ | ⟨j,_,a,e⟩
  ·cases e
  ·cases e
   have hm:=List.mem_of_getElem? a
   refine⟨zhs (hfree x hm),?_⟩
   exact zrx ndf hm
 ·intro i j x k k' hx hy
  rcases cvg hx with ⟨_,a⟩ | ⟨i',rfl,a,_⟩<;>rcases cvg hy with ⟨_,b⟩ | ⟨j',rfl,b,_⟩
  ·obtain⟨hi,e1⟩:=List.getElem?_eq_some_iff.mp a
   exact(List.getElem?_inj hi ndl).mp (a.trans b.symm)
  ·have:=(hloc x (List.mem_of_getElem? a)).symm.trans (hfree x (List.mem_of_getElem? b));exact absurd this (by decide)
  ·have:=(hloc x (List.mem_of_getElem? b)).symm.trans (hfree x (List.mem_of_getElem? a));exact absurd this (by decide)
  ·obtain⟨hi,e1⟩:=List.getElem?_eq_some_iff.mp a
   rw[(List.getElem?_inj hi ndf).mp (a.trans b.symm)]
 ·intro i j x y c hx
  rcases cvg hx with ⟨e,_⟩ | ⟨_,_,_,e⟩<;>cases e
 ·intro i x k hx
  rcases cvg hx with ⟨_,a⟩ | ⟨j,_,a,_⟩
  ·exact(h.all _ (zlk (List.mem_of_getElem? a))).2
  ·exact(h.all _ (zii (List.mem_of_getElem? a))).2
theorem z18 (ok:Γ.ok) (hC:C.ok G Γ) {sc:Scope}{n:Nat}{caps:List Nat} (h:CompOk C sc n caps) (L:Addr):(zC C sc).ok G (zcf Γ sc L):=by
 have hfree: ∀x,x∈yK sc.names→sc.names.lookup x=some .free:=fun x hx=>zF h.nd (zii hx)
 refine⟨?_,hC.fns,hC.meths,?_,?_⟩
 ·intro i x hx e
  rcases cvg e with ⟨_,a⟩ | ⟨_,_,_,e⟩
  ·have:=(zF h.nd (zlk (List.mem_of_getElem? a))).symm.trans (hfree x hx);exact absurd this (by decide)
  ·cases e
 ·intro i x r hx
  replace hx:((zqk sc.names).map (·,false)++(yK sc.names).map (·,true))[i]? =some (x,r):=hx
  by_cases hi:i<(zqk sc.names).length
  ·rw[List.getElem?_append_left (by simpa using hi),List.getElem?_map,Option.map_eq_some_iff] at hx
   obtain⟨y,a,b⟩:=hx
   cases b
   refine⟨.loc,?_,fun _ c q=>by cases q⟩
   show(zds Γ.env sc.names)[i]? =_
   unfold zds
   rw[List.getElem?_append_left (by simpa using hi),List.getElem?_map,a];rfl
  ·rw[List.getElem?_append_right (by simpa using hi),List.length_map,List.getElem?_map,Option.map_eq_some_iff] at hx
   obtain⟨y,a,b⟩:=hx
   cases b
   refine⟨.ref ((Γ.env.cells.lookup x).getD 0),?_,fun q=>by cases q⟩
   show(zds Γ.env sc.names)[i]? =_
   unfold zds
   rw[List.getElem?_append_right (by simpa using hi),List.length_map,List.getElem?_map,a];rfl
 ·intro x hx
  replace hx:(sc.names.filter fun p=>p.2== .globalImplicit).lookup x=some .globalImplicit:=hx
  have hm:(x,NameKind.globalImplicit)∈sc.names:=by
   have: ∀{l:List (Str×NameKind)},l.lookup x=some .globalImplicit→(x,NameKind.globalImplicit)∈l:=by
    intro l
    induction l with
    | nil=>intro h;exact(Option.some_ne_none _ h.symm).elim
    | cons p l ih=>
     obtain⟨y,d⟩:=p
     intro h
     simp only[List.lookup_cons] at h
     split at h
     ·rename_i e;rw[beq_iff_eq] at e;subst e;cases h;simp
     ·exact List.mem_cons_of_mem _ (ih h)
   exact(List.mem_filter.mp (this hx)).1
  exact zhk (zF h.nd hm)
end
section
variable {G:GS}{A:Around}{Γ:FE}{frz:Frz}{σ:St}{s:Shared}{C:SC}
noncomputable def zg5 (ifs:List Expr) (env:Env):Sem Bool:=
 forIn ifs true fun c r=>if r=true then do let ok ←isTrue c env (eval c env);pure (ForInStep.yield ok) else pure (ForInStep.yield r)
noncomputable def zzl (elt target iter:Expr) (ifs:List Expr) (it acc:Value) (env:Env) (c:Code):Sem Fin:=do
 standAt iter.pos
 match ←pyNext it with
 | none=>pure (.done .next)
 | some v=>
  letOwnedTupleGo target it v
  assign target env v
  let mut ok:=true
  for c in ifs do
   if ok then ok ←isTrue c env (eval c env)
  if ok then
   (do let _ ←call (.builtin "list.append") [acc,←eval elt env])
  again c
theorem zuv {elt target iter:Expr}{ifs:List Expr}{gens:List Comprehension}{d:Nat}{scope:Scope}{pos:Pos}{it:Addr}{acc:Value}{env:Env}{R:Result→Shared→Prop} (hT:compTurn (.ListComp elt gens scope pos) d (.ref it) acc env=zzl elt target iter ifs (.ref it) acc env (.compLoop (.ListComp elt gens scope pos) d (.ref it) acc env)) (I:Nat→Shared→Prop)
  (turn: ∀n s,I n s→∀(K:Shared→Prop) (T1 T2:Value→Shared→Prop) (T3 T4:Shared→Prop),(∀m s',m<n→I m s'→K s')→
   (∀v s',wpAny (model G.prog G.w) A (letOwnedTupleGo target (.ref it) v) (fun _ s'=>T2 v s') NoE s'→T1 v s')→(∀v s',wpAny (model G.prog G.w) A (assign target env v) (fun _ s'=>T3 s') NoE s'→T2 v s')→
   (∀s',wpAny (model G.prog G.w) A (zg5 ifs env) (fun ok s'=>if ok=true then T4 s' else K s') NoE s'→T3 s')→
   (∀s',wpAny (model G.prog G.w) A (eval elt env) (fun x s'=>wpAny (model G.prog G.w) A (call (.builtin "list.append") [acc,x]) (fun _ s'=>K s') NoE s') NoE s'→T4 s')→
   wpAny (model G.prog G.w) A (pyNext (.ref it)) (fun r s₁=>match r with
   | none=>R (.ok .next) s₁
   | some v=>T1 v s₁) NoE s)
  (n:Nat) (h:I n s):codeAny (model G.prog G.w) A (.compLoop (.ListComp elt gens scope pos) d (.ref it) acc env) R s:=by
 refine codeAny_loop rfl I (fun n s hI=>?_) n h
 show wpAny _ A ((compTurn (.ListComp elt gens scope pos) d (.ref it) acc env).onRaise (fun x=>do noteFrame x env;theTreesLotGoes x)) _ _ s
 refine wpAny_noted ?_
 rw[hT]
 refine wpAny_bind (wpAny_standAt (wpAny_bind (wpAny_mono (turn n s hI (fun s'=> ∃m,m<n∧I m s') _ _ _ _ (fun m s' a b=>⟨m,a,b⟩) (fun _ _ h=>h) (fun _ _ h=>h) (fun _ h=>h) fun _ h=>h) (fun r s₁ h₁=>?_) fun _ _ h'=>h'.elim)))
 cases r with
 | none=>exact wpAny_pure h₁
 | some v=>
  refine wpAny_bind (wpAny_mono h₁ (fun _ s₁' h₁'=>?_) fun _ _ h'=>h'.elim)
  refine wpAny_bind (wpAny_mono h₁' (fun _ s₂ h₂=>wpAny_bind (wpAny_mono h₂ (fun ok s₃ h₃=>?_) fun _ _ h'=>h'.elim)) fun _ _ h'=>h'.elim)
  cases ok with
  | false=>exact wpAny_pure ⟨rfl,h₃⟩
  | true=>
   exact wpAny_bind (wpAny_bind (wpAny_mono h₃ (fun x s₄ h₄=>wpAny_bind (wpAny_mono h₄ (fun _ s₅ h₅=>wpAny_pure (wpAny_pure ⟨rfl,h₅⟩)) fun _ _ h'=>h'.elim)) fun _ _ h'=>h'.elim))
theorem zr6 {elt target iter target' iter':Expr}{scope:Scope}{pos:Pos}{it:Addr}{acc:Value}{env:Env}{R:Result→Shared→Prop} (hp: ∀x,foldedSetIterable iter' env x=pure x) (I:Nat→Shared→Prop)
  (turn: ∀n s,I n s→∀(K:Shared→Prop) (T1 T2:Value→Shared→Prop) (T3:Shared→Prop) (T4:Value→Shared→Prop),(∀m s',m<n→I m s'→K s')→
   (∀v s',wpAny (model G.prog G.w) A (letOwnedTupleGo target (.ref it) v) (fun _ s'=>T2 v s') NoE s'→T1 v s')→(∀v s',wpAny (model G.prog G.w) A (assign target env v) (fun _ s'=>T3 s') NoE s'→T2 v s')→
   (∀s',wpAny (model G.prog G.w) A (eval iter' env) (fun x s'=>wpAny (model G.prog G.w) A (pyIter x) (fun i' s'=>T4 i' s') NoE s') NoE s'→T3 s')→
   (∀i' s',codeAny (model G.prog G.w) A (.compStart (.ListComp elt [⟨target,iter,[],0⟩,⟨target',iter',[],0⟩] scope pos) 1 i' acc env) (fun r s₅=>match r with | .ok _=>K s₅ | .error _=>False) s'→T4 i' s')→
   wpAny (model G.prog G.w) A (pyNext (.ref it)) (fun r s₁=>match r with
   | none=>R (.ok .next) s₁
   | some v=>T1 v s₁) NoE s)
  (n:Nat) (h:I n s):codeAny (model G.prog G.w) A (.compLoop (.ListComp elt [⟨target,iter,[],0⟩,⟨target',iter',[],0⟩] scope pos) 0 (.ref it) acc env) R s:=by
 refine codeAny_loop rfl I (fun n s hI=>?_) n h
 show wpAny _ A ((compTurn (.ListComp elt [⟨target,iter,[],0⟩,⟨target',iter',[],0⟩] scope pos) 0 (.ref it) acc env).onRaise (fun x=>do noteFrame x env;theTreesLotGoes x)) _ _ s
 refine wpAny_noted ?_
 refine wpAny_bind (wpAny_standAt (wpAny_bind (wpAny_mono (turn n s hI (fun s'=> ∃m,m<n∧I m s') _ _ _ _ (fun m s' a b=>⟨m,a,b⟩) (fun _ _ h=>h) (fun _ _ h=>h) (fun _ h=>h) fun _ _ h=>h) (fun r s₁ h₁=>?_) fun _ _ h'=>h'.elim)))
 cases r with
 | none=>exact wpAny_pure h₁
 | some v=>
  refine wpAny_bind (wpAny_mono h₁ (fun _ s₁' h₁'=>?_) fun _ _ h'=>h'.elim)
  refine wpAny_bind (wpAny_mono h₁' (fun _ s₂ h₂=>wpAny_bind (wpAny_pure ?_)) fun _ _ h'=>h'.elim)
  refine wpAny_bind (wpAny_mono h₂ (fun x s₃ h₃=>wpAny_bind (wpAny_standAt ?_)) fun _ _ h'=>h'.elim)
  show wpAny _ A (foldedSetIterable iter' env x >>=fun x=>holding [x] (pyIter x) >>=fun i'=>runOwn (.compStart (.ListComp elt [⟨target,iter,[],0⟩,⟨target',iter',[],0⟩] scope pos) 1 i' acc env) env >>=fun _=>again (.compLoop (.ListComp elt [⟨target,iter,[],0⟩,⟨target',iter',[],0⟩] scope pos) 0 (.ref it) acc env)) _ _ s₃
  refine wpAny_bind (wpAny_of_eq (hp x) (wpAny_bind (wpAny_holding (wpAny_mono h₃ (fun i' s₄ h₄=>wpAny_bind (wpAny_runOwn (codeAny_mono h₄ fun r s₅ h₅=>?_))) fun _ _ h'=>h'.elim))))
  cases r with
  | ok f=>exact wpAny_pure ⟨rfl,h₅⟩
  | error e=>exact h₅.elim
theorem z56 {elt target iter target' iter':Expr}{scope:Scope}{pos:Pos}{it acc:Value}{env:Env}{R:Result→Shared→Prop}
  (h0:codeAny (model G.prog G.w) A (.compLoop (.ListComp elt [⟨target,iter,[],0⟩,⟨target',iter',[],0⟩] scope pos) 1 it acc env) R s)
  (h:wpAny (model G.prog G.w) A (pyIter it) (fun it' s'=>codeAny (model G.prog G.w) A (.compLoop (.ListComp elt [⟨target,iter,[],0⟩,⟨target',iter',[],0⟩] scope pos) 1 it' acc env) R s') NoE s):
  codeAny (model G.prog G.w) A (.compStart (.ListComp elt [⟨target,iter,[],0⟩,⟨target',iter',[],0⟩] scope pos) 1 it acc env) R s:=by
 refine codeAny_of_tree ?_
 show wpAny _ A ((compStart (.ListComp elt [⟨target,iter,[],0⟩,⟨target',iter',[],0⟩] scope pos) 1 it acc env).onRaise (fun x=>do noteFrame x env;standAt theWindowsPlace)) _ _ s
 refine wpAny_notedAt ?_
 unfold compStart
 show wpAny _ _ (ask >>=_) _ _ s
 refine wpAny_bind (wpAny_askSetting (wpAny_ite ?_))
 split
 ·exact wpAny_bind (wpAny_pure (wpAny_pure ⟨rfl,h0⟩))
 ·refine wpAny_bind (wpAny_rule ?_)
  show wpAny _ _ (standAt iter'.pos >>=_) _ _ s
  exact wpAny_bind (wpAny_standAt (wpAny_bind (wpAny_mono h (fun it' s' h'=>wpAny_pure ⟨rfl,h'⟩) fun _ _ x=>x.elim)))
theorem z2o (r:Rep G Γ frz σ s) {acc:Addr}{arr:Array Value}{n:Nat}{us:List V}{u:V}{cu:Value} (d:Aside G Γ frz σ acc) (ha:s.heap.get? acc=some {cls:= .type "list",data:= .seq arr n}) (ru:RVs s.heap arr.toList us) (hu:RV s.heap cu u) (hs:sma us.length):
  wpAny (model G.prog G.w) A (call (.builtin "list.append") [.ref acc,cu]) (fun _ s'=>Rep G Γ frz σ s'∧TK s.heap s'.heap∧(∀b o,b≠acc→s.heap.get? b=some o→s'.heap.get? b=some o)∧
   ∃arr' n',s'.heap.get? acc=some {cls:= .type "list",data:= .seq arr' n'}∧RVs s'.heap arr'.toList (us++[u])) NoE s:=by
 have hz:=ru.length
 simp only[Array.length_toList] at hz
 refine call_meets F.slot_list_append ⟨_,ha,rfl⟩ F.entry_list_append (F.args_list_append_2 _ _) (AutoListH.list_append_list_val_0 _ _ _ _ (by rw[hz];exact zbn hs)) ⟨ha,?_⟩
 have k: ∀b o,b≠acc→s.heap.get? b=some o→(s.heap.update acc (Obj.mapSeq fun x=>x.push cu)).get? b=some o:=fun b o hb e=>(Heap.get?_update_other _ _ (Ne.symm hb)).trans e
 obtain⟨q1,q2⟩:=r.aside (tk:=s.toks) d ha (by simp[Imm,zjg]) k
 exact⟨q1,q2,k,_,_,Heap.get?_update_self _ ha rfl,by simpa [Obj.mapSeq] using (ru.tk q2).append (RVs.one (hu.tk q2))⟩
theorem znd {it:Addr}{o:Obj}{g:Mem→Prop}{vs:List V}{post:Value→Shared→Prop}{E:Value→Shared→Prop} (ho:s.heap.get? it=some o) (i:IterAt s.heap o g vs) (q:post (.ref it) s):
  wpAny (model G.prog G.w) A (pyIter (.ref it)) post E s:=by
 cases i with
 | list a b=>exact wpAny_pyIter_listiter ⟨o,ho,a,b⟩ q
 | tup a b _ _=>exact wpAny_pyIter_tupleiter ⟨o,ho,a,b⟩ q
 | rng=>exact wpAny_pyIter_rangeiter ho q
 | @str _ x t i a b=>
  cases hasc:(mkS x).cps.all (·<128) with
  | true=>
   have st:strIterType (mkS x)="str_ascii_iterator":=by unfold strIterType;rw[hasc];rfl
   rw[st] at a
   exact wpAny_pyIter_striter_ascii ⟨o,ho,a,b⟩ q
  | false=>
   have st:strIterType (mkS x)="str_iterator":=by unfold strIterType;rw[hasc];rfl
   rw[st] at a
   exact wpAny_pyIter_striter_wide ⟨o,ho,a,b⟩ q
structure CompWalk (G:GS) (A:Around) (P:PC) (Γ':FE) (elt target:Expr) (ifs:List Expr) (one:Bool) (is:List Nat) (cs:List Ex) (x:Ex):Prop where
 bind: ∀{v:V} {Q:St→Prop} {σ:St},yC one is v Q σ→∀{frz:Frz} {s:Shared} {cv:Value},Rep G Γ' frz σ s→RV s.heap cv v→wpAny (model G.prog G.w) A (assign target Γ'.env cv) (PU G Γ' frz s Q) NoE s
 test: ∀{Q:Bool→St→Prop} {σ:St},zjy P true cs Q σ→WB G A Γ' (zg5 ifs Γ'.env) Q σ
 elt: ∀{Q:V→St→Prop} {σ:St},wpE P x Q σ→W G A Γ' (eval elt Γ'.env) Q σ
inductive LI (G:GS) (Γ':FE) (frz:Frz) (it acc:Addr) (g:Mem→Prop) (h0:Heap) (W:List V→List V→St→Prop) (n:Nat) (s:Shared):Prop
 | mk {σ:St} {vs us:List V} {o:Obj} {arr:Array Value} {na:Nat}:vs.length=n→Rep G Γ' frz σ s→TK h0 s.heap→Aside G Γ' frz σ it→Aside G Γ' frz σ acc→s.heap.get? it=some o→IterAt s.heap o g vs→
  s.heap.get? acc=some {cls:= .type "list",data:= .seq arr na}→RVs s.heap arr.toList us→W vs us σ→LI G Γ' frz it acc g h0 W n s
noncomputable abbrev zzh (arr:Array Value) (na:Nat):Obj:={cls:= .type "list",data:= .seq arr na}
inductive Out (G:GS) (Γ':FE) (frz:Frz) (it acc:Addr) (o a:Obj) (σ:St) (s:Shared):Prop
 | mk:Rep G Γ' frz σ s→Aside G Γ' frz σ it→Aside G Γ' frz σ acc→s.heap.get? it=some o→s.heap.get? acc=some a→Out G Γ' frz it acc o a σ s
theorem zmz {Γ':FE}{target:Expr}{it acc:Addr}{o:Obj}{g:Mem→Prop}{vs:List V}{arr:Array Value}{na:Nat}{T1 T2:Value→Shared→Prop}{T3 Rn:Shared→Prop}{Q:V→List V→St→Prop}
  (hA:Rm A) (hne:it≠acc) (r:Rep G Γ' frz σ s) (a:Aside G Γ' frz σ it) (b:Aside G Γ' frz σ acc) (ho:s.heap.get? it=some o) (hi:IterAt s.heap o g vs) (ha:s.heap.get? acc=some (zzh arr na)) (hg:g σ.mem)
  (k1: ∀v s',wpAny (model G.prog G.w) A (letOwnedTupleGo target (.ref it) v) (fun _ s'=>T2 v s') NoE s'→T1 v s') (k2: ∀v s',wpAny (model G.prog G.w) A (assign target Γ'.env v) (fun _ s'=>T3 s') NoE s'→T2 v s')
  (hn:vs=[]→∀s',Rep G Γ' frz σ s'→TK s.heap s'.heap→Aside G Γ' frz σ acc→s'.heap.get? acc=some (zzh arr na)→Rn s')
  (hb: ∀v vs',vs=v::vs'→∀{frz:Frz} {s:Shared} {cv:Value},Rep G Γ' frz σ s→RV s.heap cv v→wpAny (model G.prog G.w) A (assign target Γ'.env cv) (PU G Γ' frz s (Q v vs')) NoE s)
  (hc: ∀v vs',vs=v::vs'→∀o2 s' σ',IterAt s'.heap o2 g vs'→Q v vs' σ'→Rep G Γ' (z0 (z0 frz acc (zzh arr na)) it o2) σ' s'→TK s.heap s'.heap→
   (∀{σ₅ s₅},Rep G Γ' (z0 (z0 frz acc (zzh arr na)) it o2) σ₅ s₅→Out G Γ' frz it acc o2 (zzh arr na) σ₅ s₅)→T3 s'):
  wpAny (model G.prog G.w) A (pyNext (.ref it)) (fun y s'=>match y with | none=>Rn s' | some v=>T1 v s') NoE s:=by
 have r':=r.asideIn b ha
 have ae:Aside G Γ' (z0 frz acc (zzh arr na)) σ it:=⟨a.m,by unfold z0;rw[if_neg hne];exact a.f,a.l,a.c,a.r⟩
 refine wpAny_mono (zjk hA r' ae ho hi hg) (fun y s₂ p=>?_) fun _ _ x=>x.elim
 cases vs with
 | nil=>
  cases y with
  | some _=>exact False.elim p
  | none=>
   obtain⟨r2,t2⟩:=p
   obtain⟨r2',b2,ha2⟩:=Rep.asideOut r b r2
   exact hn rfl s₂ r2' t2 b2 ha2
 | cons v vs'=>
  cases y with
  | none=>exact False.elim p
  | some cv=>
   obtain⟨rv,r2,t2,o2,ho2,i2⟩:=p
   refine k1 _ _ (zj3 ho2 i2 (k2 _ _ ?_))
   refine wpAny_mono (hb v vs' rfl (r2.asideIn ae ho2) rv) (fun _ s₃ p=>?_) fun _ _ x=>x.elim
   obtain⟨σ₃,r3,t3,w3⟩:=p
   refine hc v vs' rfl o2 s₃ σ₃ (i2.tk t3) w3 r3 (t2.trans t3) fun r5=>?_
   obtain⟨q5,a5,ho5⟩:=Rep.asideOut r2 ae r5
   obtain⟨q6,b6,ha6⟩:=Rep.asideOut r b q5
   exact⟨q6,⟨a5.m,a.f,a.l,a.c,a.r⟩,b6,ho5,ha6⟩
theorem zyk {b:V→(St→Prop)→St→Prop}{t:(Bool→St→Prop)→St→Prop}{e:(V→St→Prop)→St→Prop}{g:Mem→Prop}{R:List V→St→Prop}: ∀{vs us:List V}{σ:St},zc5 b t e g R vs us σ→g σ.mem
 | [],_,_,h=>h.1
 | _::_,_,_,h=>h.1
theorem zsz {b:V→(St→Prop)→St→Prop}{i:(V→St→Prop)→St→Prop}{b2:V→(St→Prop)→St→Prop}{t:(Bool→St→Prop)→St→Prop}{e:(V→St→Prop)→St→Prop}{g:Mem→Prop}{R:List V→St→Prop}: ∀{vs us:List V}{σ:St},zek b i b2 t e g R vs us σ→g σ.mem
 | [],_,_,h=>h.1
 | _::_,_,_,h=>h.1
theorem zp6 {P:PC}{Γ':FE}{elt target iter:Expr}{ifs:List Expr}{gens:List Comprehension}{d:Nat}{scope:Scope}{pos:Pos}{one:Bool}{is:List Nat}{cs:List Ex}{x:Ex}{it acc:Addr}{o:Obj}{g:Mem→Prop}{R:List V→St→Prop}{vs us₀:List V}{arr₀:Array Value}{n₀:Nat}
  (hT:compTurn (.ListComp elt gens scope pos) d (.ref it) (.ref acc) Γ'.env=zzl elt target iter ifs (.ref it) (.ref acc) Γ'.env (.compLoop (.ListComp elt gens scope pos) d (.ref it) (.ref acc) Γ'.env))
  (hA:Rm A) (cw:CompWalk G A P Γ' elt target ifs one is cs x) (r:Rep G Γ' frz σ s) (hne:it≠acc) (d1:Aside G Γ' frz σ it) (d2:Aside G Γ' frz σ acc) (ho:s.heap.get? it=some o) (hi:IterAt s.heap o g vs)
  (ha:s.heap.get? acc=some {cls:= .type "list",data:= .seq arr₀ n₀}) (hru:RVs s.heap arr₀.toList us₀) (hs:sma (us₀.length+vs.length)) (w:zc5 (yC one is) (zjy P true cs) (wpE P x) g R vs us₀ σ) {RR:Result→Shared→Prop}
  (fin: ∀s' σ' us arr n,Rep G Γ' frz σ' s'→TK s.heap s'.heap→Aside G Γ' frz σ' acc→s'.heap.get? acc=some {cls:= .type "list",data:= .seq arr n}→RVs s'.heap arr.toList us→R us σ'→RR (.ok .next) s'):
  codeAny (model G.prog G.w) A (.compLoop (.ListComp elt gens scope pos) d (.ref it) (.ref acc) Γ'.env) RR s:=by
 generalize hh:s.heap=h0 at fin
 refine zuv hT (LI G Γ' frz it acc g h0 fun vs us σ=>sma (us.length+vs.length)∧zc5 (yC one is) (zjy P true cs) (wpE P x) g R vs us σ) ?_ vs.length (.mk rfl r (by rw[←hh];exact .refl _) d1 d2 ho hi ha hru ⟨hs,w⟩)
 clear w hs hru ha hi ho d1 d2 r hh
 intro n s₁ hI K T1 T2 T3 T4 hK k1 k2 k3 k4
 cases hI with | @mk σ₁ vs us o₁ arr na hl r1 t1 a1 b1 ho1 i1 ha1 ru1 hw=>
 obtain⟨hs,w1⟩:=hw
 refine zmz hA hne r1 a1 b1 ho1 i1 ha1 (zyk w1) k1 k2 (fun e s₂ r2 t2 b2 ha2=>?_) (Q:=fun v vs'=>zjy P true cs fun b σ₁=>if b then wpE P x (fun u σ₂=>zc5 (yC one is) (zjy P true cs) (wpE P x) g R vs' (us++[u]) σ₂) σ₁ else zc5 (yC one is) (zjy P true cs) (wpE P x) g R vs' us σ₁) (fun v vs' e=>?_) fun v vs' e o2 s₃ σ₃ i3 w3 r3 t3 out=>?_
 ·subst e;exact fin s₂ _ _ _ _ r2 (t1.trans t2) b2 ha2 (ru1.tk t2) w1.2
 ·subst e;exact cw.bind w1.2
 subst e
 refine k3 _ (wpAny_mono (cw.test w3 _ _ r3) (fun ok s₄ p=>?_) fun _ _ x=>x.elim)
 obtain⟨σ₄,r4,t4,w4⟩:=p
 cases ok with
 | false=>
  obtain⟨r6,a6,b6,ho6,ha6⟩:=out r4
  have tt:=t3.trans t4
  exact hK _ _ (by rw[←hl];exact Nat.lt_succ_self _) (.mk rfl r6 (t1.trans tt) a6 b6 ho6 (i3.tk t4) ha6 (ru1.tk tt) ⟨ntr (Nat.add_le_add_left (Nat.le_succ _) _) hs,w4⟩)
 | true=>
  refine k4 _ (wpAny_mono (cw.elt w4 _ _ r4) (fun cu s₅ p=>?_) fun _ _ x=>x.elim)
  obtain⟨u,σ₅,rvu,r5,t5,w5⟩:=p
  obtain⟨r7,a6,b7,ho6,ha7⟩:=out r5
  have tt:=(t3.trans t4).trans t5
  refine wpAny_mono (z2o r7 b7 ha7 (ru1.tk tt) rvu (ntr (Nat.le_add_right _ _) hs)) (fun _ s₆ p=>?_) fun _ _ x=>x
  obtain⟨r8,t8,k8,arr',n',ha8,ru8⟩:=p
  exact hK _ _ (by rw[←hl];exact Nat.lt_succ_self _) (.mk rfl r8 (t1.trans (tt.trans t8)) ⟨a6.m,a6.f,a6.l,a6.c,a6.r⟩ b7 (k8 _ _ hne ho6) ((i3.tk (t4.trans t5)).tk t8) ha8 ru8 ⟨by rw[List.length_append];exact(Nat.add_assoc ..).symm▸(Nat.add_comm 1 _)▸hs,w5⟩)
theorem zvg {P:PC}{Γ':FE}{elt target iter target' iter':Expr}{scope:Scope}{pos:Pos}{one:Bool}{is:List Nat}{j:Nat}{x y:Ex}{it acc:Addr}{o:Obj}{g:Mem→Prop}{R:List V→St→Prop}{vs us₀:List V}{arr₀:Array Value}{n₀:Nat}
  (hA:Rm A) (hp: ∀x,foldedSetIterable iter' Γ'.env x=pure x) (ok:Γ'.ok) (cb: ∀{v:V} {Q:St→Prop} {σ:St},yC one is v Q σ→∀{frz:Frz} {s:Shared} {cv:Value},Rep G Γ' frz σ s→RV s.heap cv v→wpAny (model G.prog G.w) A (assign target Γ'.env cv) (PU G Γ' frz s Q) NoE s)
  (ci: ∀{Q:V→St→Prop} {σ:St},wpE P y Q σ→W G A Γ' (eval iter' Γ'.env) Q σ) (cw:CompWalk G A P Γ' elt target' [] true [j] [] x) (r:Rep G Γ' frz σ s) (hne:it≠acc) (d1:Aside G Γ' frz σ it) (d2:Aside G Γ' frz σ acc) (ho:s.heap.get? it=some o) (hi:IterAt s.heap o g vs)
  (ha:s.heap.get? acc=some {cls:= .type "list",data:= .seq arr₀ n₀}) (hru:RVs s.heap arr₀.toList us₀) (w:zek (yC one is) (wpE P y) (yC true [j]) (fun k σ=>k true σ) (wpE P x) g R vs us₀ σ) {RR:Result→Shared→Prop}
  (fin: ∀s' σ' us arr n,Rep G Γ' frz σ' s'→TK s.heap s'.heap→Aside G Γ' frz σ' acc→s'.heap.get? acc=some {cls:= .type "list",data:= .seq arr n}→RVs s'.heap arr.toList us→R us σ'→RR (.ok .next) s'):
  codeAny (model G.prog G.w) A (.compLoop (.ListComp elt [⟨target,iter,[],0⟩,⟨target',iter',[],0⟩] scope pos) 0 (.ref it) (.ref acc) Γ'.env) RR s:=by
 generalize hh:s.heap=h0 at fin
 refine zr6 hp (LI G Γ' frz it acc g h0 fun vs us σ=>zek (yC one is) (wpE P y) (yC true [j]) (fun k σ=>k true σ) (wpE P x) g R vs us σ) ?_ vs.length (.mk rfl r (by rw[←hh];exact .refl _) d1 d2 ho hi ha hru w)
 clear w hru ha hi ho d1 d2 r hh
 intro n s₁ hI K T1 T2 T3 T4 hK k1 k2 k3 k4
 cases hI with | @mk σ₁ vs us o₁ arr na hl r1 t1 a1 b1 ho1 i1 ha1 ru1 w1=>
 refine zmz hA hne r1 a1 b1 ho1 i1 ha1 (zsz w1) k1 k2 (fun e s₂ r2 t2 b2 ha2=>?_)
  (Q:=fun v vs'=>wpE P y fun w σ₁=>yG σ₁.mem w fun ws g2=>sma (us.length+ws.length)∧zc5 (yC true [j]) (fun k σ=>k true σ) (wpE P x) g2 (fun us' σ₂=>zek (yC one is) (wpE P y) (yC true [j]) (fun k σ=>k true σ) (wpE P x) g R vs' us' σ₂) ws us σ₁)
  (fun v vs' e=>?_) fun v vs' e o2 s₃ σ₃ i3 w3 r3 t3 out=>?_
 ·subst e;exact fin s₂ _ _ _ _ r2 (t1.trans t2) b2 ha2 (ru1.tk t2) w1.2
 ·subst e;exact cb w1.2
 subst e
 refine k3 _ (wpAny_mono (ci w3 _ _ r3) (fun cw' s₄ p=>?_) fun _ _ x=>x.elim)
 obtain⟨u,σ₄,rvu,r4,t4,w4⟩:=p
 obtain⟨ws,g2,⟨hsm,w5⟩,mk⟩:=zjo (A:=A) r4 rvu w4
 refine wpAny_mono mk (fun itv s₅ p=>?_) fun _ _ x=>x
 obtain⟨ia,o5,rfl,r5,t5,d5,ho5,i5⟩:=p
 obtain⟨q6,a6,b6,hi5,ha6⟩:=out r5
 have e5:z0 (z0 frz acc (zzh arr na)) it o2 ia=none:=d5.f
 have nii:ia≠it:=fun e=>by rw[e] at e5;unfold z0 at e5;rw[if_pos rfl] at e5;cases e5
 have e6:z0 frz acc (zzh arr na) ia=none:=(if_neg nii).symm.trans e5
 have nia:ia≠acc:=fun e=>by rw[e] at e6;unfold z0 at e6;rw[if_pos rfl] at e6;cases e6
 have e7:frz ia=none:=(if_neg nia).symm.trans e6
 have tt:=t3.trans (t4.trans t5)
 refine k4 _ _ ((fun go=>z56 go (znd ho5 i5 go)) ?_)
 refine zp6 (d:=1) (gens:=[⟨target,iter,[],0⟩,⟨target',iter',[],0⟩]) rfl hA cw (q6.asideIn a6 hi5) nia ⟨d5.m,(if_neg nii).trans e7,d5.l,d5.c,d5.r⟩ ⟨b6.m,(if_neg (Ne.symm hne)).trans b6.f,b6.l,b6.c,b6.r⟩ ho5 i5 ha6 (ru1.tk tt) hsm w5 fun s' σ' us' arr' n' r' t' b' h' ru' w'=>?_
 obtain⟨r8,a8,h8⟩:=Rep.asideOut q6 a6 r'
 exact hK _ _ (by rw[←hl];exact Nat.lt_succ_self _) (.mk rfl r8 (t1.trans (tt.trans t')) ⟨a8.m,a6.f,a6.l,a6.c,a6.r⟩ ⟨b'.m,b6.f,b6.l,b6.c,b6.r⟩ h8 (i3.tk ((t4.trans t5).trans t')) h' ru' w')
end
section
variable {G:GS}{A:Around}{Γ:FE}{frz:Frz}{σ:St}{s:Shared}{C:SC}
theorem zd9 {e:Expr}{env:Env} (h:zT e=true) (x:Value):foldedSetIterable e env x=pure x:=by
 cases e<;>first | rfl | exact absurd h Bool.false_ne_true
noncomputable def zn5 (σ:St) (s:Shared) (it:Addr):Frz:=fun b=>if b=it then none else zm0 σ s b
theorem zx7 (ok:Γ.ok) (hC:C.ok G Γ) {sc:Scope}{n:Nat}{caps:List Nat} (hc:CompOk C sc n caps) (r:Rep G Γ frz σ s) {it L:Addr} (d:Aside G Γ frz σ it) (hL:s.heap.objs.size<L) {h₁:Heap}{tk:Nat} (k: ∀b o,s.heap.get? b=some o→h₁.get? b=some o)
  {m:Str→Option Value} (ns:h₁.Ns L m):Rep G (zcf Γ sc L) (zn5 σ s it) (zeh σ n caps) {s with heap:=h₁,toks:=tk}:=by
 have fr: ∀b o,zn5 σ s it b=some o→s.heap.get? b=some o∧σ.mem b=none:=fun b o e=>by
  unfold zn5 at e
  split at e
  ·cases e
  ·have:=yN.mp e;exact⟨this.2,this.1⟩
 have up: ∀b o,frz b=some o→zn5 σ s it b=some o:=fun b o e=>by
  unfold zn5
  rw[if_neg (fun z=>by subst z;rw[d.f] at e;cases e)]
  exact r.upIn e
 have t:=TK.of k
 have hlf:zn5 σ s it L=none:=by
  cases q:zn5 σ s it L with
  | none=>rfl
  | some o=>exact absurd (Heap.lt_size (fr _ _ q).1) (Nat.not_lt.mpr (Nat.le_of_lt hL))
 refine⟨let ⟨_,_,e⟩:=r.same;⟨h₁,tk,by rw[e]⟩,fun b o e=>up b o (r.hbase b o e),fun b o e=>up b o (r.hkeep b o e),fun b o e=>k _ _ (fr b o e).1,fun a o e=>(r.hmem a o e).keep t (k a),fun a o e=>?_,?_,hlf,(r.none_of_ge (Nat.le_of_lt hL)).1,?_,?_,?_⟩
 ·cases q:zn5 σ s it a with
  | none=>rfl
  | some o'=>have:=(fr _ _ q).2;rw[show σ.mem a=some o from e] at this;cases this
 ·exact Nat.le_of_lt (Nat.lt_of_le_of_lt (Nat.le_of_lt (Nat.lt_of_le_of_lt r.hab r.lt_locals)) hL)
 ·refine⟨m,ns,fun i x v hx hv=>?_⟩
  rcases cvg hx with ⟨_,a⟩ | ⟨j,_,_,e⟩
  ·have hi:i<n:=by rw[←hc.len];exact(List.getElem?_eq_some_iff.mp a).1
   replace hv:(List.replicate n none++caps.map fun i=>(σ.loc[i]?).join)[i]? =some (some v):=hv
   rw[List.getElem?_append_left (by simpa using hi),List.getElem?_replicate] at hv
   split at hv<;>cases hv
  ·cases e
 ·intro i x c hx
  rcases cvg hx with ⟨e,_⟩ | ⟨_,_,_,e⟩<;>cases e
 ·intro i x c hx
  rcases cvg hx with ⟨e,_⟩ | ⟨j,hi,a,e⟩
  ·cases e
  refine bc fun z9=>?_
  obtain⟨i',h1,h2,h3⟩:=(zo4 hc.caps).2 j x a
  refine z9 ?_
  refine bc fun z9=>?_
  obtain⟨c',hc',hv⟩:=zpl ok hC h2 h3
  refine z9 ?_
  have ec:c=c':=by injection e with e;rw[e,hc'];rfl
  subst ec
  have loc: ∀v,(zeh σ n caps).loc[i]? =some (some v)→σ.loc[i']? =some (some v):=fun v hv=>by
   replace hv:(List.replicate n none++caps.map fun i=>(σ.loc[i]?).join)[i]? =some (some v):=hv
   rw[hi,hc.len,List.getElem?_append_right (by simp),List.length_replicate,Nat.add_sub_cancel_left,List.getElem?_map,h1] at hv
   simp only[Option.map_some,Option.some.injEq] at hv
   cases q:σ.loc[i']? with
   | none=>rw[q] at hv;cases hv
   | some y=>rw[q] at hv;rw[show y=some v from hv]
  rcases hv with hv | hv
  ·refine bc fun z9=>?_
   obtain⟨p,q,o,ov,g,dd,f⟩:=r.hown i' x c hv
   refine z9 ?_
   refine⟨o,ov,?_,dd,fun v hv'=>let ⟨cv,e1,e2⟩:=f v (loc v hv');⟨cv,e1,e2.tk t⟩⟩
   unfold zn5
   rw[if_neg (d.c i' x c hv)]
   exact yN.mpr ⟨q,g⟩
  ·refine bc fun z9=>?_
   obtain⟨o,ov,g,dd,f⟩:=r.href i' x c hv
   refine z9 ?_
   exact⟨o,ov,up _ _ g,dd,fun v hv'=>let ⟨cv,e1,e2⟩:=f v (loc v hv');⟨cv,e1,e2.tk t⟩⟩
noncomputable def zji (G:GS) (A:Around) (Γ':FE) (e:Expr) (WW:List V→(Mem→Prop)→(List V→St→Prop)→St→Prop):Prop:= ∀{frz:Frz}{σ:St}{s:Shared}{it acc:Addr}{o:Obj}{g:Mem→Prop}{R:List V→St→Prop}{vs:List V},
 Rep G Γ' frz σ s→it≠acc→Aside G Γ' frz σ it→Aside G Γ' frz σ acc→s.heap.get? it=some o→IterAt s.heap o g vs→s.heap.get? acc=some {cls:= .type "list",data:= .seq #[] 0}→sma vs.length→WW vs g R σ→∀{RR:Result→Shared→Prop},
 (∀s' σ' us arr n,Rep G Γ' frz σ' s'→TK s.heap s'.heap→Aside G Γ' frz σ' acc→s'.heap.get? acc=some {cls:= .type "list",data:= .seq arr n}→RVs s'.heap arr.toList us→R us σ'→RR (.ok .next) s')→
 codeAny (model G.prog G.w) A (.compLoop e 0 (.ref it) (.ref acc) Γ'.env) RR s
theorem zly {WW:List V→(Mem→Prop)→(List V→St→Prop)→St→Prop}{gs:List Comprehension}{elt target iter:Expr}{ifs:List Expr}{sc:Scope}{pos ipos:Pos}{n:Nat}{caps:List Nat}{use:Option (Value→Sem Unit)}{QQ:Value→Shared→Prop}{R:St→List V→Mem→Prop}
  (hA:Rm A) (ok:Γ.ok) (hC:C.ok G Γ) (hc:CompOk C sc n caps) (hpl:zT iter=true) (cr: ∀L,zji G A (zcf Γ sc L) (.ListComp elt (⟨target,iter,ifs,0⟩::gs) sc pos) WW) (r:Rep G Γ frz σ s)
  (w:W G A Γ (eval iter Γ.env) (fun v σ₁=>yG σ₁.mem v fun vs g=>sma vs.length∧WW vs g (fun us σ'=>R σ₁ us σ'.mem) (zeh σ₁ n caps)) σ)
  (fin: ∀σ₁ s' us m' D L mL,R σ₁ us m'→m' D=none→Rep G Γ frz ⟨σ₁.loc,upd m' D (.list us)⟩ s'→TK s.heap s'.heap→Aside G Γ frz ⟨σ₁.loc,upd m' D (.list us)⟩ L→s'.heap.Ns L mL→compPost (model G.prog G.w) A NoE use QQ (.ref D) L (.ok .next) s'):
  wpAny (model G.prog G.w) A (comprehension (.ListComp elt (⟨target,iter,ifs,0⟩::gs) sc pos) sc Γ.env ipos (newList []) false (eval iter Γ.env) use) QQ NoE s:=by
 have hcell: ∀y∈sc.names,y.2≠ .cell:=fun y hy q=>by rcases (hc.all y hy).1 with e | e | e<;>rw[e] at q<;>exact absurd q (by decide)
 refine wpAny_comprehension_free (g:=⟨target,iter,ifs,0⟩) (gs:=gs) rfl (zd9 hpl) (zop (zjh ok hC hc)) hc.kind (fun y hy hl=>zF hc.nd (by rw[←hl];exact hy)) ?_
 refine w.then r fun cv v σ₁ s₁ a1 r1 t1 w1=>?_
 refine bc fun z9=>?_
 obtain⟨vs,g,⟨hsm,w2⟩,mk⟩:=zjo (A:=A) r1 a1 w1
 refine z9 ?_
 refine wpAny_mono mk (fun itv s₂ p=>?_) fun _ _ x=>x
 refine bc fun z9=>?_
 obtain⟨ia,o,rfl,r2,t2,d2,ho2,i2⟩:=p
 refine z9 ?_
 refine wpAny_newObj_type (wpAny_newFunctionEnv hcell (by intro y hy;simp at hy) (fun h₁ hns₁ hsb₁=>?_) hc.kind)
 dsimp only at hns₁ hsb₁ ⊢
 have kpush:=zax s₂.heap {cls:= .type "list",dict:=none,data:= .seq ([]:List Value).toArray}
 have hD2:=Heap.get?_push_size s₂.heap (o:={cls:= .type "list",dict:=none,data:= .seq ([]:List Value).toArray}) rfl
 have hsz:(s₂.heap.push {cls:= .type "list",dict:=none,data:= .seq ([]:List Value).toArray}).objs.size=s₂.heap.objs.size+1:=Heap.size_push ..
 generalize s₂.heap.push {cls:= .type "list",dict:=none,data:= .seq ([]:List Value).toArray}=H2 at hns₁ hsb₁ kpush hD2 hsz ⊢
 have hLt:s₂.heap.objs.size<H2.objs.size:=zc 5071437861753899 rfl hsz
 have neL: ∀b,b<H2.objs.size→b≠H2.objs.size:=fun b hb=>Nat.ne_of_lt hb
 have old: ∀b o,s₂.heap.get? b=some o→h₁.get? b=some o:=fun b o e=>
  hsb₁.extBut b o (neL b (Nat.lt_trans (Heap.lt_size e) hLt)) (Heap.get?_push_of_some _ (kpush b o e))
 have hD:h₁.get? s₂.heap.objs.size=some {cls:= .type "list",data:= .seq #[] 0}:=hsb₁.extBut _ _ (neL _ hLt) (Heap.get?_push_of_some _ hD2)
 have r3:=zx7 ok hC hc r2 d2 hLt (tk:=s₂.toks+([]:List (Str×Value)).length) old hns₁
 have nf: ∀b,s₂.heap.objs.size≤b→zm0 σ₁ s₂ b=none:=fun b hb=>by
  cases q:zm0 σ₁ s₂ b with
  | none=>rfl
  | some o=>exact absurd (Heap.lt_size (yN.mp q).2) (Nat.not_lt.mpr hb)
 have hia:ia<s₂.heap.objs.size:=Heap.lt_size ho2
 have cellLt: ∀(i:Nat) y c,(zcf Γ sc H2.objs.size).vars[i]? =some (y,.ref c)→c≠ia∧c<s₂.heap.objs.size:=fun i y c hx=>by
  refine bc fun z9=>?_
  obtain⟨ob,ov,g,_,_⟩:=r3.href i y c hx
  refine z9 ?_
  unfold zn5 at g
  split at g
  ·exact(Option.some_ne_none _ g.symm).elim
  ·rename_i q
   exact⟨q,Heap.lt_size (yN.mp g).2⟩
 have noOwn: ∀(i:Nat) y c,(zcf Γ sc H2.objs.size).vars[i]? =some (y,.own c)→False:=fun i y c hx=>by
  rcases cvg hx with ⟨e,_⟩ | ⟨_,_,_,e⟩<;>cases e
 have a1':Aside G (zcf Γ sc H2.objs.size) (zn5 σ₁ s₂ ia) (zeh σ₁ n caps) ia:=⟨d2.m,by unfold zn5;rw[if_pos rfl],Nat.ne_of_lt (Nat.lt_trans hia hLt),fun i y c hx=>(noOwn i y c hx).elim,fun i y c hx=>(cellLt i y c hx).1⟩
 have a2':Aside G (zcf Γ sc H2.objs.size) (zn5 σ₁ s₂ ia) (zeh σ₁ n caps) s₂.heap.objs.size:=
  ⟨(r2.none_of_ge (Nat.le_refl _)).1,by unfold zn5;rw[if_neg (Nat.ne_of_gt hia)];exact nf _ (Nat.le_refl _),Nat.ne_of_lt hLt,fun i y c hx=>(noOwn i y c hx).elim,fun i y c hx=>Nat.ne_of_lt (cellLt i y c hx).2⟩
 have t3:TK s₂.heap h₁:= .of old
 have go: ∀s₃:Shared,s₃={s₂ with heap:=h₁,toks:=s₂.toks+([]:List (Str×Value)).length}→
   codeAny (model G.prog G.w) A (.compLoop (.ListComp elt (⟨target,iter,ifs,0⟩::gs) sc pos) 0 (.ref ia) (.ref s₂.heap.objs.size) (zcf Γ sc H2.objs.size).env) (compPost (model G.prog G.w) A NoE use QQ (.ref s₂.heap.objs.size) H2.objs.size) s₃:=by
  rintro s₃ rfl
  refine cr _ r3 (Nat.ne_of_lt hia) a1' a2' (old _ _ ho2) (i2.tk t3) hD hsm w2 fun s' σ' us arr na r4 t4 a4 ha4 ru4 hR=>?_
  have tt:TK s₂.heap s'.heap:=t3.trans t4
  have b1:Rep G Γ frz ⟨σ₁.loc,σ'.mem⟩ s':=r2.back rfl r4.rp (fun b o e hor hg=>by
   unfold zn5
   rw[if_neg (fun z=>?_)]
   ·exact yN.mpr ⟨e,hg⟩
   ·subst z
    rcases hor with q | ⟨o',q⟩ | ⟨i,y,q⟩
    ·exact d2.l q
    ·rw[d2.f] at q;exact(Option.some_ne_none _ q.symm).elim
    ·exact d2.c i y _ q rfl) tt
  have r2': ∀b,s₂.heap.objs.size≤b→frz b=none∧b≠Γ.env.locals∧(∀(i:Nat) y c,Γ.vars[i]? =some (y,.own c)→c≠b)∧(∀(i:Nat) y c,Γ.vars[i]? =some (y,.ref c)→c≠b):=fun b hb=>by
   have:=r2.asideNew hb
   exact⟨this.f,this.l,this.c,this.r⟩
  have hn:=r2' _ (Nat.le_refl _)
  have hn2:=r2' _ (Nat.le_of_lt hLt)
  have b2:=b1.join (a:=s₂.heap.objs.size) (o:= .list us) a4.m hn.1 hn.2.1 hn.2.2.1 (.list ha4 ru4)
  refine bc fun z9=>?_
  obtain⟨mL,nsL,_⟩:=r4.hns
  refine z9 ?_
  refine fin σ₁ s' us σ'.mem s₂.heap.objs.size H2.objs.size mL hR a4.m b2 ((t1.trans t2).trans tt) ⟨?_,hn2.1,hn2.2.1,hn2.2.2.1,hn2.2.2.2⟩ nsL
  show upd σ'.mem _ _ _=none
  rw[upn _ _ (Nat.ne_of_gt hLt)];exact r4.hlm
 exact codeAny_compStart_list (go _ rfl) (znd (old _ _ ho2) (i2.tk t3) (go _ rfl))
theorem zzo {WW:List V→(Mem→Prop)→(List V→St→Prop)→St→Prop}{gs:List Comprehension}{elt target iter:Expr}{ifs:List Expr}{sc:Scope}{pos:Pos}{n:Nat}{caps:List Nat}{Q:V→St→Prop}
  (hA:Rm A) (ok:Γ.ok) (hC:C.ok G Γ) (hc:CompOk C sc n caps) (hpl:zT iter=true) (cr: ∀L,zji G A (zcf Γ sc L) (.ListComp elt (⟨target,iter,ifs,0⟩::gs) sc pos) WW)
  (w:W G A Γ (eval iter Γ.env) (fun v σ₁=>yG σ₁.mem v fun vs g=>sma vs.length∧WW vs g (fun us σ'=> ∀a,σ'.mem a=none→Q (.obj a) {σ₁ with mem:=upd σ'.mem a (.list us)}) (zeh σ₁ n caps)) σ):
  W G A Γ (eval (.ListComp elt (⟨target,iter,ifs,0⟩::gs) sc pos) Γ.env) Q σ:=fun frz s r=>by
 simp only[eval_ListComp]
 refine zly (use:=none) (R:=fun σ₁ us m=> ∀a,m a=none→Q (.obj a) {σ₁ with mem:=upd m a (.list us)}) hA ok hC hc hpl cr r w fun σ₁ s' us m' D L mL hR hm r' t' d' ns=>?_
 refine⟨mL,ns,fun h' hs'=>?_⟩
 refine bc fun z9=>?_
 obtain⟨oL,es,ep,e,dL,_⟩:=ns
 refine z9 ?_
 obtain⟨r2,t2⟩:=r'.aside (tk:=s'.toks) d' e (by rintro (⟨_,_,_,q⟩ | ⟨_,_,q,_⟩ | ⟨_,_,_,q,_⟩)<;>rw[dL] at q<;>cases q) hs'.extBut
 exact⟨.obj D,_,.obj D,r2,t'.trans t2,hR D hm⟩
end
section
variable {G:GS}{A:Around}{P:PC}
theorem zoi {o:Expr}{attr:Str}{env:Env}{t:Sem Value} (h:zbu o=true):attributeBase o attr env t=t:=by
 cases o<;>first | rfl | exact absurd h Bool.false_ne_true
theorem zqp {o:Expr}{name:Str}{ap pos:Pos}{env:Env}{ov:Value}{xs:List Expr}{s:Shared}{Q:Value→Shared→Prop} (hn:xs.length<20) (hl:ap.endLine=pos.line)
  (h: ∀pl:Sem Bool,wpAny (model G.prog G.w) A (getMethod ov name pl) (fun p s₁=>wpAny (model G.prog G.w) A (callWith pos p.1 p.2 (xs.map fun e=>(false,eval e env)) []) Q NoE s₁) NoE s):
  wpAny (model G.prog G.w) A (methodCall o name ap pos env ov (xs.length+([]:List Keyword).length) (xs.map fun e=>(false,eval e env)) (backToKw pos (keywordEach [] env))) Q NoE s:=by
 have few:methodCallForm (xs.length+([]:List Keyword).length) (xs.map fun e=>(false,eval e env)) (backToKw pos (keywordEach [] env))=true:=by
  unfold methodCallForm
  simp only[Bool.and_eq_true,decide_eq_true_eq]
  refine⟨⟨?_,rfl⟩,?_⟩
  ·rw[List.all_map,List.all_eq_true];intro _ _;rfl
  ·show xs.length+0+0<30
   exact ntr ‹_› (by decide)
 unfold methodCall
 rw[few]
 refine wpAny_bind (wpAny_holding ?_)
 refine wpAny_mono (h _) (fun p s₁ h₁=>?_) fun _ _ x=>x
 obtain⟨f,first⟩:=p
 refine wpAny_bind ?_
 unfold methodCallPos
 rw[if_pos (by simp[hl])]
 exact wpAny_pure h₁
theorem zee {M:Model}{A:Around}{E:Value→Shared→Prop}{s:Shared}{vs keep:List Value}{Q:Unit→Shared→Prop} (h:Q () s):wpAny M A (release vs keep) Q E s:=
 fun Γ p _=>by rw[Sem.wp_release];exact h
theorem zed {α:Type}{M:Model}{A:Around}{E:Value→Shared→Prop}{s:Shared}{x y:Sem α}{Q:α→Shared→Prop} (e:x=y) (h:wpAny M A y Q E s):wpAny M A x Q E s:=e▸h
theorem zn {α:Type}{M:Model}{A:Around}{E:Value→Shared→Prop}{s:Shared}{x:Sem α}{P Q:α→Shared→Prop} (h:wpAny M A x P E s) (k: ∀a s,P a s→Q a s):wpAny M A x Q E s:=wpAny_mono h k fun _ _ x=>x
structure Cx (G:GS) (A:Around) (P:PC) (Γ:FE) (C:SC):Prop where
 g:G.ok
 b:G.bi
 a:Rm A
 p:P.run G A
 ok:Γ.ok
 c:C.ok G Γ
noncomputable def SE (G:GS) (A:Around) (P:PC) (x:Ex):Prop:= ∀(Γ:FE) (C:SC),Cx G A P Γ C→∀(e:Expr),zo C x e=true→∀(Q:V→St→Prop) (σ:St),wpE P x Q σ→W G A Γ (eval e Γ.env) Q σ
noncomputable def ST (G:GS) (A:Around) (P:PC) (x:Ex):Prop:= ∀(Γ:FE) (C:SC),Cx G A P Γ C→∀(e:Expr),zo C x e=true→∀(Q:Bool→St→Prop) (σ:St),wpT P x (wpE P x) Q σ→WB G A Γ (isTrue e Γ.env (eval e Γ.env)) Q σ
structure SX (G:GS) (A:Around) (P:PC) (x:Ex):Prop where
 e:SE G A P x
 t:ST G A P x
structure SL (G:GS) (A:Around) (P:PC) (xs:List Ex):Prop where
 es: ∀(Γ:FE) (C:SC),Cx G A P Γ C→∀(es:List Expr),zz C xs es=true→∀(Q:List V→St→Prop) (σ:St),zj0 P xs Q σ→Wn G A Γ es.length (spliced (es.map fun e=>(false,eval e Γ.env))) Q σ
 cs: ∀(Γ:FE) (C:SC),Cx G A P Γ C→∀(es:List Expr),zz C xs es=true→∀(Q:Bool→St→Prop) (σ:St),zjy P true xs Q σ→WB G A Γ (zg5 es Γ.env) Q σ
 ch: ∀(Γ:FE) (C:SC),Cx G A P Γ C→∀(es:List Expr),zz C xs es=true→∀(ops:List CmpOp) (v:V) (Q:Bool→St→Prop) (σ:St),zsm P ops xs v Q σ→∀(pos:Pos) frz s cv,Rep G Γ frz σ s→RV s.heap cv v→
  wpAny (model G.prog G.w) A (compareChain pos cv ops (evalEach es Γ.env)) (fun cr s'=> ∃b,cr= .bool b∧PB G Γ frz s Q b s') NoE s
 ct: ∀(Γ:FE) (C:SC),Cx G A P Γ C→∀(es:List Expr),zz C xs es=true→∀(ops:List CmpOp) (v:V) (Q:Bool→St→Prop) (σ:St),zsm P ops xs v Q σ→∀(pos:Pos) frz s cv,Rep G Γ frz σ s→RV s.heap cv v→
  wpAny (model G.prog G.w) A (testChain pos cv ops (evalEach es Γ.env)) (PB G Γ frz s Q) NoE s
 bo: ∀(Γ:FE) (C:SC),Cx G A P Γ C→∀(es:List Expr),zz C xs es=true→∀(k:Bool) (Q:V→St→Prop) (σ:St),zwq P k xs Q σ→∀(pos:Pos),W G A Γ (boolOp pos (if k then .And else .Or) (evalEach es Γ.env)) Q σ
 ts: ∀(Γ:FE) (C:SC),Cx G A P Γ C→∀(es:List Expr),zz C xs es=true→∀(k:Bool) (Q:Bool→St→Prop) (σ:St),zjy P k xs Q σ→WB G A Γ (allTrue (if k then .And else .Or) es Γ.env) Q σ
theorem zw2 {x:Ex} (h:zf3 x=true):x= .lit .none:=by
 cases x<;>first | exact absurd h Bool.false_ne_true | skip
 rename_i v
 cases v<;>first | rfl | exact absurd h Bool.false_ne_true
theorem zjp {Γ:FE}{C:SC}{x:Ex}{frz:Frz}{s:Shared}{Q:V→St→Prop}{σ:St} (h:zny C x none=true) (w:wpE P x Q σ) (r:Rep G Γ frz σ s):PV G Γ frz s Q .none s:=by
 cases zw2 h
 exact⟨_,_,.none,r,.refl _,w⟩
theorem zmd {Γ:FE}{C:SC}{x:Ex} (X:Cx G A P Γ C) (ih:SE G A P x) (e:Option Expr) (h:zny C x e=true) {Q:V→St→Prop}{σ:St} (w:wpE P x Q σ):
  W G A Γ (valueOrNone (evalOpt e Γ.env)) Q σ:=by
 cases e with
 | none=>exact fun frz s r=>wpAny_pure (zjp h w r)
 | some e=>exact ih Γ C X e h _ _ w
noncomputable def zb9 (e:Expr):Bool:=match e with
 | .UnaryOp o _ _=>!(o== .Not)
 | e=>e.ctorIdx !=0&&(e.ctorIdx !=15&&(e.ctorIdx !=5&&e.ctorIdx !=1))
theorem znk {e:Expr}{env:Env} (h:zb9 e=true):isTrue e env (eval e env)=(do let v ←eval e env;standAt e.pos;holding [v] (truthy v)):=by
 cases e<;>first | rfl | exact absurd h Bool.false_ne_true | skip
 rename_i o _ _
 cases o<;>first | rfl | exact absurd h Bool.false_ne_true
theorem zw5 {x:Ex} (ih:SE G A P x) (hx: ∀C e,zo C x e=true→zb9 e=true) (hw: ∀(Q:Bool→St→Prop) (σ:St),wpT P x (wpE P x) Q σ→wpE P x (fun v σ₁=>zK σ₁.mem v fun b=>Q b σ₁) σ):ST G A P x:=
 fun Γ C X e h _ _ w=>zvd (ih Γ C X e h _ _ (hw _ _ w)) (znk (hx C e h))
theorem zmg {env:Env}{post:Bool→Shared→Prop}{E:Value→Shared→Prop}: ∀(es:List Expr) {s:Shared},post false s→
  wpAny (model G.prog G.w) A (forIn es false fun c r=>if r=true then do let ok ←isTrue c env (eval c env);pure (ForInStep.yield ok) else pure (ForInStep.yield r)) post E s
 | [],s,q=>wpAny_pure q
 | e::es,s,q=>by
  rw[List.forIn_cons]
  exact wpAny_bind (wpAny_pure (zmg es q))
theorem zsg {env:Env}{e:Expr}{es:List Expr}{post:Bool→Shared→Prop}{E:Value→Shared→Prop}{s:Shared}
  (h:wpAny (model G.prog G.w) A (isTrue e env (eval e env)) (fun b s₁=>wpAny (model G.prog G.w) A (forIn es b fun c r=>if r=true then do let ok ←isTrue c env (eval c env);pure (ForInStep.yield ok) else pure (ForInStep.yield r)) post E s₁) E s):
  wpAny (model G.prog G.w) A (zg5 (e::es) env) post E s:=by
 unfold zg5
 rw[List.forIn_cons]
 exact wpAny_bind (wpAny_bind (wpAny_mono h (fun b s₁ q=>wpAny_pure q) fun _ _ x=>x))
theorem PO.pv {Γ:FE}{frz:Frz}{σ:St}{s s₀ s':Shared}{cv:Value}{Q:V→St→Prop} (k:TK s₀.heap s.heap) (h:PO G Γ frz σ s (fun r m=>Q r {σ with mem:=m}) cv s'):PV G Γ frz s₀ Q cv s':=(h.toPV fun _ _ q=>q).after k
theorem PO.pv' {Γ:FE}{frz:Frz}{σ:St}{s s₀ s':Shared}{cv:Value}{Q:V→St→Prop} (k:TK s₀.heap s.heap) (h:PO G Γ frz σ s (fun r m=>m=σ.mem∧Q r σ) cv s'):PV G Γ frz s₀ Q cv s':=(h.toPV fun r m ⟨e,q⟩=>by subst e;exact q).after k
section
variable {a b c:Ex}{es:List Ex}
theorem z4h {v:V}:SE G A P (.lit v):=fun Γ C X e h Q σ w=>znq (e:=e) (K:=fun c=>zx3 v c) (M:=fun e=>W G A Γ (eval e Γ.env) Q σ) h fun _ _ _ q=>z8s q w
theorem z4j {i:Nat}:SE G A P (.var i):=fun Γ C X e h Q σ w=>zez (e:=e) (K:=fun n=>C.is i n) (M:=fun e=>W G A Γ (eval e Γ.env) Q σ) h fun _ _ q=>
 let ⟨_,hk⟩:=z0y X.c q
 let ⟨_,hv,q⟩:=zof w
 zzz X.ok hk hv q
theorem z59 {op:Operator} (ia:SE G A P a) (ib:SE G A P b):SE G A P (.bin op a b):=fun Γ C X e h Q σ w=>z01 h fun l r p h1 h2 frz s R=>
 wpAny_BinOp ((ia Γ C X l h1 _ _ w).then R fun cv v σ₁ s₁ a1 b1 c1 d1=>(ib Γ C X r h2 _ _ d1).then b1 fun cu u σ₂ s₂ a2 b2 c2 d2=>zn (z7z d2 b2 (a1.tk c2) a2) fun _ _ h3=>h3.pv (c1.trans c2))
theorem z2z {Γ:FE}{frz:Frz}{σ:St}{s s₀:Shared}{v:V}{cv:Value}{Q:V→St→Prop} (w:match v with | .int i=>Q (.int (-i)) σ | _=>False) (k:TK s₀.heap s.heap) (r:Rep G Γ frz σ s) (hv:RV s.heap cv v):wpAny (model G.prog G.w) A (unaryOp .USub cv) (PV G Γ frz s₀ Q) NoE s:=by
 cases v<;>first | exact False.elim w | skip
 exact hv.eI fun _=>neg_int ⟨_,_,.int _ _,r.toks _,k,w⟩
theorem z6w (ia:SE G A P a):SE G A P (.neg a):=fun Γ C X e h Q σ w=>zt1 h fun y p h frz s R=>
 zed (arm_eval_UnaryOp _ _ _ _) (wpAny_bind ((ia Γ C X y h _ _ w).then R fun cv v σ₁ s₁ a1 b1 c1 d1=>wpAny_bind (wpAny_standAt (wpAny_holding (z2z d1 c1 b1 a1)))))
theorem z40 (ia:SE G A P a):SE G A P (.not a):=fun Γ C X e h Q σ w=>zs7 h fun y p h frz s R=>
 zed (arm_eval_UnaryOp _ _ _ _) (wpAny_bind ((ia Γ C X y h _ _ w).then R fun cv v σ₁ s₁ a1 b1 c1 d1=>wpAny_bind (wpAny_standAt (wpAny_holding (not_of (zn (zoy d1 b1 a1) fun b s₂ h2=>⟨_,_,.bool _,h2.1,c1.trans h2.2.1,h2.2.2⟩))))))
theorem z5m (ic:ST G A P c) (ia:SE G A P a) (ib:SE G A P b):SE G A P (.ite c a b):=fun Γ C X e h Q σ w=>zs1 h fun t y z p h1 h2 h3 frz s R=>
 zed (arm_eval_IfExp _ _ _ _ _) (wpAny_bind ((ic Γ C X t h1 _ _ w).then R fun t σ₁ s₁ b1 c1 d1=>by
  cases t with
  | true=>exact zn (ia Γ C X y h2 _ _ d1 frz s₁ b1) fun _ _ h3=>h3.after c1
  | false=>exact zn (ib Γ C X z h3 _ _ d1 frz s₁ b1) fun _ _ h3=>h3.after c1))
theorem zt2 {cvs:List Value}{n:Nat} (h:n<1000) (l:cvs.length=n):cvs.toArray.size≤sizeLine:=by rw[List.size_toArray,l,sizeLine_eq];exact ntr (Nat.le_of_lt h) (by decide)
theorem z0z (is:SL G A P es):SE G A P (.list es):=fun Γ C X e h Q σ w=>zw7 h fun xs p hn h frz s R=>
 List_ (zed (by rw[zej h,zfi]) ((is.es Γ C X xs h _ _ w).then R fun cvs vs σ₁ s₁ l1 a1 b1 c1 d1=>wpAny_newObj_type
  ((PO.newList (Q:=fun r m=>Q r {σ₁ with mem:=m}) b1 (tk:=s₁.toks) (arr:=cvs.toArray) (List.toList_toArray.symm▸a1) d1).pv c1) (zt2 hn l1)))
theorem z6h (is:SL G A P es):SE G A P (.tup es):=fun Γ C X e h Q σ w=>z2b h fun xs n p hn h frz s R=>
 Tuple_ (zed (by rw[zej h,zfi]) ((is.es Γ C X xs h _ _ w).then R fun cvs vs σ₁ s₁ l1 a1 b1 c1 d1=>wpAny_newObj_type
  ((PO.newTup (Q:=fun r m=>Q r {σ₁ with mem:=m}) b1 (tk:=s₁.toks) (arr:=cvs.toArray) (List.toList_toArray.symm▸a1) d1).pv c1) (zt2 hn l1)))
theorem z54 {ops:List CmpOp} (ia:SE G A P a) (is:SL G A P es):SE G A P (.cmp a ops es):=fun Γ C X e h Q σ w=>zww h fun l cs p h1 h2 frz s R=>
 zed ((arm_eval_Compare _ _ _ _ _).trans (by rw[zjj _ h2])) (wpAny_bind ((ia Γ C X l h1 _ _ w).then R fun cv v σ₁ s₁ a1 b1 c1 d1=>
  zn (is.ch Γ C X cs h2 _ _ _ _ d1 p frz s₁ cv b1 a1) fun _ _ ⟨b,e,σ',r',q,t⟩=>⟨_,σ',e ▸ .bool _,r',c1.trans q,t⟩))
theorem z1n (is:SL G A P es):SE G A P (.band es):=fun Γ C X e h Q σ w=>zpw h fun xs p h frz s R=>
 zed (arm_eval_BoolOp _ _ _ _) (is.bo Γ C X xs h true _ _ w p frz s R)
theorem z52 (is:SL G A P es):SE G A P (.bor es):=fun Γ C X e h Q σ w=>zvu h fun xs p h frz s R=>
 zed (arm_eval_BoolOp _ _ _ _) (is.bo Γ C X xs h false _ _ w p frz s R)
theorem z5k (ia:SE G A P a) (ib:SE G A P b):SE G A P (.idx a b):=fun Γ C X e h Q σ w=>z1f h fun l r p h1 h2 frz s R=>
 Subscript_ ((ia Γ C X l h1 _ _ w).then R fun cv v σ₁ s₁ a1 b1 c1 d1=>(ib Γ C X r h2 _ _ d1).then b1 fun cu u σ₂ s₂ a2 b2 c2 d2=>zn (z8v d2 b2 (a1.tk c2) a2) fun _ _ h3=>h3.pv' (c1.trans c2))
theorem z4c {lo hi st:Ex} (ia:SE G A P a) (il:SE G A P lo) (ih:SE G A P hi) (is:SE G A P st):SE G A P (.slc a lo hi st):=fun Γ C X e h Q σ w=>
 zg9 (e:=e) (K:=fun v s=>zjn s fun l u k=>zo C a v&&(zny C lo l&&(zny C hi u&&zny C st k))) (M:=fun e=>W G A Γ (eval e Γ.env) Q σ) h fun v sl p q=>
  zmm (e:=sl) (K:=fun l u k=>zo C a v&&(zny C lo l&&(zny C hi u&&zny C st k))) (M:=fun sl=>W G A Γ (eval (.Subscript v sl p) Γ.env) Q σ) q fun l u k p' q frz s R=>by
   obtain⟨q1,q⟩:=zb q
   obtain⟨q2,q⟩:=zb q
   obtain⟨q3,q4⟩:=zb q
   refine Subscript_ ((ia Γ C X v q1 _ _ w).then R fun cv v σ₁ s₁ a1 b1 c1 d1=>zed (arm_eval_Slice _ _ _ _ _) ?_)
   refine wpAny_bind ((zmd X il l q2 d1).then b1 fun cl l σ₂ s₂ a2 b2 c2 d2=>wpAny_bind (wpAny_holding ((zmd X ih u q3 d2).then b2 fun ch hh σ₃ s₃ a3 b3 c3 d3=>
    wpAny_bind (wpAny_holding ((zmd X is k q4 d3).then b3 fun cs ss σ₄ s₄ a4 b4 c4 d4=>wpAny_newObj_type ?_)))))
   exact zn (z8d d4 b4 (a1.tk (c2.trans (c3.trans c4))) (a2.tk (c3.trans c4)) (a3.tk c4) a4) fun _ _ h3=>h3.pv (c1.trans (c2.trans (c3.trans c4)))
theorem z1y {n:String} (ia:SE G A P a):SE G A P (.attr a n):=fun Γ C X e h Q σ w=>zw3 h fun v p h1 h2 frz s R=>by
 refine zed ((arm_eval_Attribute _ _ _ _).trans (by rw[zoi h1])) (wpAny_bind ((ia Γ C X v h2 _ _ w).then R fun cv v σ₁ s₁ a1 b1 c1 d1=>wpAny_bind (wpAny_standAt (wpAny_bind (wpAny_holding (zn (z6z X.g X.p.ok d1 b1 a1) fun cr s₂ h2=>?_))))))
 exact wpAny_bind (wpAny_letTemporaryGo (wpAny_pure (h2.pv' c1)))
theorem z8n {b:Bi} (is:SL G A P es):SE G A P (.bi b es):=fun Γ C X e h' Q σ w=>zi3 (x:=e) (K:=fun f xs=>C.glob b.name f&&zz C es xs) (M:=fun e=>W G A Γ (eval e Γ.env) Q σ) h' fun f q xs p h frz s R=>by
 obtain⟨h1,h6⟩:=zb h
 obtain⟨rfl,hk,hd⟩:=ztf X.c h1
 refine zed (zdd _ _ _ _ _) (zed (by rw[zej h6,zfi]) (wpAny_bind (zt0 X.g X.b X.ok R hk hd (zyd (zc0 _ _) (zm4 (is.es Γ C X xs h6 _ _ w).ws R fun cvs vs σ₁ s₁ a1 b1 c1 d1=>?_)))))
 exact zn (s_bi X.a X.ok d1 b1 a1) fun _ _ h3=>h3.pv c1
theorem z0v {n:String} (is:SL G A P es):SE G A P (.call n es):=fun Γ C X e h' Q σ w=>zi3 (x:=e) (K:=fun f xs=>C.fns.contains n&&(C.glob n f&&zz C es xs)) (M:=fun e=>W G A Γ (eval e Γ.env) Q σ) h' fun f q xs p h frz s R=>by
 obtain⟨h0,h⟩:=zb h
 obtain⟨h1,h6⟩:=zb h
 obtain⟨rfl,hk,hd⟩:=ztf X.c h1
 obtain⟨f,hf1,hf2,hf3⟩:=X.p.call n (X.c.fns n (List.contains_iff_mem.mp h0))
 refine zed (zdd _ _ _ _ _) (zed (by rw[zej h6,zfi]) (wpAny_bind (zw0 X.g X.ok R hk hd hf1 (callWith_of (P:=G.K.In) (by rw[zc0];rfl) (keeps_K hf2) (zm4 (is.es Γ C X xs h6 _ _ w).ws R fun cvs vs σ₁ s₁ a1 b1 c1 d1=>⟨b1.kin X.g,?_⟩)))))
 exact zn (hf3 _ _ _ d1 Γ frz σ₁ s₁ cvs X.ok b1 rfl a1) fun _ _ h3=>h3.pv c1
theorem z8o {m:Me} (ia:SE G A P a) (is:SL G A P es):SE G A P (.me a m es):=fun Γ C X e h Q σ w=>zl0 (x:=e) (n:=m.name) (o:=a) (args:=es) (C:=C) (M:=fun e=>W G A Γ (eval e Γ.env) Q σ) h fun v q xs p h1 h2 h3 h4 h5 frz s R=>by
 refine zed ((arm_eval_Call _ _ _ _ _ _ _).trans (by rw[zoi h3,zej h5,zfi])) (wpAny_bind ((ia Γ C X v h4 _ _ w).then R fun cv v σ₁ s₁ a1 b1 c1 d1=>wpAny_bind (wpAny_standAt (zqp h2 h1 fun pl=>z3r d1.1 b1 a1 ?_))))
 refine Calls.callWith_builtin (zc0 _ _) (zm4 (is.es Γ C X xs h5 _ _ d1.2).ws b1 fun cvs vs σ₂ s₂ a2 b2 c2 d2=>?_)
 exact zn (s_me X.ok d2 b2 (a1.tk c2) a2) fun _ _ h3=>h3.pv (c1.trans c2)
theorem zw8 {n:String} (ia:SE G A P a) (is:SL G A P es):SE G A P (.imeth a n es):=fun Γ C X e h Q σ w=>
 have hm:=zb h
 zl0 (x:=e) (n:=n) (o:=a) (args:=es) (C:=C) (M:=fun e=>W G A Γ (eval e Γ.env) Q σ) hm.2 fun v q xs p h1 h2 h3 h4 h5 frz s R=>by
 refine bc fun z9=>?_
 obtain⟨f,hf1,hf2,hf3,hf4,hf5⟩:=X.p.meth n (X.c.meths n (List.contains_iff_mem.mp hm.1))
 refine z9 ?_
 refine zed ((arm_eval_Call _ _ _ _ _ _ _).trans (by rw[zoi h3,zej h5,zfi])) (wpAny_bind ((ia Γ C X v h4 _ _ w).then R fun cv v σ₁ s₁ a1 b1 c1 d1=>wpAny_bind (wpAny_standAt ?_)))
 refine bc fun z9=>?_
 obtain⟨⟨a,d,fs,rfl,e1,e2,e3⟩,w1⟩:=d1
 refine z9 ?_
 refine bc fun z9=>?_
 obtain⟨es,k,I,hF,_⟩:=zpi b1 e1 e2
 refine z9 ?_
 refine a1.eO (zqp h2 h1 fun pl=>method_fn (b1.kin X.g) I (plainGet_of hf3).1 (plainGet_of hf3).2 hf1 (beq_iff_eq.mp hf2) ?_ ?_)
 ·show(lookIn _ (dictOf es k)).map _=_
  rw[lookIn_dict,(zey hF).2 e3];rfl
 refine callWith_of (P:=G.K.In) (by rw[zc0];rfl) (keeps_K hf4) (zm4 (is.es Γ C X xs h5 _ _ w1).ws b1 fun cvs vs σ₂ s₂ a2 b2 c2 d2=>⟨b2.kin X.g,?_⟩)
 exact zn (hf5 _ _ _ d2 Γ frz σ₂ s₂ _ X.ok b2 rfl (.cons (.obj _) a2)) fun _ _ h3=>h3.pv (c1.trans c2)
theorem zxx {i:Nat} (is:SL G A P es):SE G A P (.lcall i es):=fun Γ C X e h' Q σ w=>zi3 (x:=e) (K:=fun f xs=>C.is i f&&zz C es xs) (M:=fun e=>W G A Γ (eval e Γ.env) Q σ) h' fun f q xs p h frz s R=>by
 obtain⟨h1,h⟩:=zb h
 obtain⟨k,hk⟩:=z0y X.c h1
 refine bc fun z9=>?_
 obtain⟨v,hv,w⟩:=zof w
 refine z9 ?_
 refine zed (zdd _ _ _ _ _) (zed (by rw[zej h,zfi]) (wpAny_bind ((zzz (Q:=fun u σ'=>u=v∧σ'=σ) X.ok hk hv ⟨rfl,rfl⟩).then R fun cv v' σ₁ s₁ a1 b1 c1 ⟨e1,e2⟩=>?_)))
 subst e1 e2
 refine callWith_of (P:=fun h=> ∃a fo fd,cv= .ref a∧h.get? a=some fo∧fo.data= .func fd) (by rw[zc0];rfl) (fun h ⟨a,fo,fd,e,g,d⟩=>e▸zze h g d)
  (zm4 (is.es Γ C X xs h _ _ w).ws b1 fun cvs vs σ₂ s₂ a2 b2 c2 d2=>?_)
 refine bc fun z9=>?_
 obtain⟨a,fo,fd,rfl,g1,g2,hs⟩:=X.p.loc _ _ _ _ d2
 refine z9 ?_
 refine a1.eO ⟨⟨a,fo,fd,rfl,?_,g2⟩,?_⟩
 ·cases b2.hmem _ _ g1 with
  | fn g=>exact g
 ·exact zn (hs Γ frz σ₂ s₂ cvs X.ok b2 rfl a2) fun _ _ h3=>h3.pv (c1.trans c2)
inductive LC1 (C:SC) (elt it:Ex) (one:Bool) (is caps:List Nat) (cs:List Ex) (n:Nat) (x:Expr):Prop
 | mk (e t i:Expr) (ifs:List Expr) (sc:Scope) (p:Pos):x= .ListComp e [⟨t,i,ifs,0⟩] sc p→zT i=true→zo C it i=true→zgk C sc n caps=true→zav (zC C sc) one is t=true→zz (zC C sc) cs ifs=true→zo (zC C sc) elt e=true→LC1 C elt it one is caps cs n x
theorem zh8 {C:SC}{elt it:Ex}{one:Bool}{is caps:List Nat}{cs:List Ex}{n:Nat}{x:Expr} (h:zo C (.comp elt one is it cs n caps) x=true):LC1 C elt it one is caps cs n x:=
 zzs (e:=x) (K:=fun e gs sc=>z7a gs fun t i ifs=>zT i&&(zo C it i&&(zgk C sc n caps&&(zav (zC C sc) one is t&&(zz (zC C sc) cs ifs&&zo (zC C sc) elt e))))) (M:=LC1 C elt it one is caps cs n) h
  fun e gs sc p q=>zqe (M:=fun gs=>LC1 C elt it one is caps cs n (.ListComp e gs sc p)) q fun t i ifs q=>by
   obtain⟨q1,q⟩:=zb q
   obtain⟨q2,q⟩:=zb q
   obtain⟨q3,q⟩:=zb q
   obtain⟨q4,q⟩:=zb q
   exact⟨e,t,i,ifs,sc,p,rfl,q1,q2,q3,q4,(zb q).1,(zb q).2⟩
theorem Cx.comp {Γ:FE}{C:SC}{sc:Scope}{n:Nat}{caps:List Nat} (X:Cx G A P Γ C) (hc:CompOk C sc n caps) (L:Addr):Cx G A P (zcf Γ sc L) (zC C sc):=⟨X.g,X.b,X.a,X.p,z23 X.ok X.c hc L,z18 X.ok X.c hc L⟩
theorem zma {Γ:FE}{C:SC}{elt:Ex}{one:Bool}{is caps:List Nat}{cs:List Ex}{n:Nat}{sc:Scope}{e t i:Expr}{ifs:List Expr}{p:Pos} (X:Cx G A P Γ C) (ie:SE G A P elt) (ic:SL G A P cs) (hc:CompOk C sc n caps) (h4:zav (zC C sc) one is t=true) (h5:zz (zC C sc) cs ifs=true) (h6:zo (zC C sc) elt e=true) (L:Addr):
  zji G A (zcf Γ sc L) (.ListComp e [⟨t,i,ifs,0⟩] sc p) (fun vs g R σ=>zc5 (yC one is) (zjy P true cs) (wpE P elt) g R vs [] σ):=
 fun r hne d1 d2 ho hi ha hs w _ fin=>zp6 rfl X.a ⟨fun w _ _ _ r hv=>zk9 X.a (X.comp hc L).ok (X.comp hc L).c h4 w r hv,fun w=>ic.cs _ _ (X.comp hc L) ifs h5 _ _ w,fun w=>ie _ _ (X.comp hc L) e h6 _ _ w⟩ r hne d1 d2 ho hi ha .nil (by show sma (0+_);rwa [Nat.zero_add]) w fin
theorem z2n {it:Ex}{one:Bool}{is caps:List Nat}{n:Nat} (ie:SE G A P a) (ii:SE G A P it) (ic:SL G A P es):SE G A P (.comp a one is it es n caps):=fun Γ C X e h Q σ w=>by
 refine bc fun z9=>?_
 obtain⟨e,t,i,ifs,sc,p,rfl,h1,h2,h3,h4,h5,h6⟩:=zh8 h
 refine z9 ?_
 exact zzo X.a X.ok X.c (zby h3) h1 (zma X ie ic (zby h3) h4 h5 h6) (ii Γ C X i h2 _ _ w)
inductive LC2 (C:SC) (elt it iti:Ex) (one:Bool) (is caps:List Nat) (j n:Nat) (x:Expr):Prop
 | mk (e t i t' i':Expr) (sc:Scope) (p:Pos):x= .ListComp e [⟨t,i,[],0⟩,⟨t',i',[],0⟩] sc p→zT i=true→zT i'=true→zo C it i=true→zgk C sc n caps=true→zav (zC C sc) one is t=true→zav (zC C sc) true [j] t'=true→
  zo (zC C sc) iti i'=true→zo (zC C sc) elt e=true→LC2 C elt it iti one is caps j n x
theorem zft {C:SC}{elt it iti:Ex}{one:Bool}{is caps:List Nat}{j n:Nat}{x:Expr} (h:zo C (.comp2 elt one is it iti j n caps) x=true):LC2 C elt it iti one is caps j n x:=
 zzs (e:=x) (K:=fun e gs sc=>z78 gs fun t i t' i'=>zT i&&(zT i'&&(zo C it i&&(zgk C sc n caps&&(zav (zC C sc) one is t&&(zav (zC C sc) true [j] t'&&(zo (zC C sc) iti i'&&zo (zC C sc) elt e))))))) (M:=LC2 C elt it iti one is caps j n) h
  fun e gs sc p q=>zx4 (M:=fun gs=>LC2 C elt it iti one is caps j n (.ListComp e gs sc p)) q fun t i t' i' q=>by
   obtain⟨q1,q⟩:=zb q
   obtain⟨q2,q⟩:=zb q
   obtain⟨q3,q⟩:=zb q
   obtain⟨q4,q⟩:=zb q
   obtain⟨q5,q⟩:=zb q
   obtain⟨q6,q⟩:=zb q
   exact⟨e,t,i,t',i',sc,p,rfl,q1,q2,q3,q4,q5,q6,(zb q).1,(zb q).2⟩
theorem zj8 {Γ:FE}{C:SC}{elt iti:Ex}{one:Bool}{is caps:List Nat}{j n:Nat}{sc:Scope}{e t i t' i':Expr}{p:Pos} (X:Cx G A P Γ C) (ie:SE G A P elt) (ii:SE G A P iti) (hc:CompOk C sc n caps) (hp:zT i'=true) (h4:zav (zC C sc) one is t=true) (h4':zav (zC C sc) true [j] t'=true) (h5:zo (zC C sc) iti i'=true) (h6:zo (zC C sc) elt e=true) (L:Addr):
  zji G A (zcf Γ sc L) (.ListComp e [⟨t,i,[],0⟩,⟨t',i',[],0⟩] sc p) (fun vs g R σ=>zek (yC one is) (wpE P iti) (yC true [j]) (fun k σ=>k true σ) (wpE P elt) g R vs [] σ):=
 fun r hne d1 d2 ho hi ha hs w _ fin=>zvg X.a (zd9 hp) (X.comp hc L).ok (fun w _ _ _ r hv=>zk9 X.a (X.comp hc L).ok (X.comp hc L).c h4 w r hv) (fun w=>ii _ _ (X.comp hc L) i' h5 _ _ w)
  ⟨fun w _ _ _ r hv=>zk9 X.a (X.comp hc L).ok (X.comp hc L).c h4' w r hv,fun w _ _ r=>wpAny_pure ⟨_,r,.refl _,w⟩,fun w=>ie _ _ (X.comp hc L) e h6 _ _ w⟩ r hne d1 d2 ho hi ha .nil w fin
theorem zxo {it iti:Ex}{one:Bool}{is caps:List Nat}{j n:Nat} (ie:SE G A P a) (ii:SE G A P it) (ij:SE G A P iti):SE G A P (.comp2 a one is it iti j n caps):=fun Γ C X e h Q σ w=>by
 refine bc fun z9=>?_
 obtain⟨e,t,i,t',i',sc,p,rfl,h1,hp,h2,h3,h4,h4',h5,h6⟩:=zft h
 refine z9 ?_
 exact zzo X.a X.ok X.c (zby h3) h1 (zj8 X ie ij (zby h3) hp h4 h4' h5 h6) (ii Γ C X i h2 _ _ w)
theorem z6m (ia:ST G A P a):ST G A P (.not a):=fun Γ C X e h Q σ w=>zs7 h fun y p h frz s R=>
 zed (arm_isTrue_UnaryOp _ _ _ _) (wpAny_bind ((ia Γ C X y h _ _ w).then R fun b σ₁ s₁ b1 c1 d1=>wpAny_pure ⟨σ₁,b1,c1,d1⟩))
theorem z11 (is:SL G A P es):ST G A P (.band es):=fun Γ C X e h Q σ w=>zpw h fun xs p h frz s R=>zed (arm_isTrue_BoolOp _ _ _ _ _) (is.ts Γ C X xs h true _ _ w frz s R)
theorem z4f (is:SL G A P es):ST G A P (.bor es):=fun Γ C X e h Q σ w=>zvu h fun xs p h frz s R=>zed (arm_isTrue_BoolOp _ _ _ _ _) (is.ts Γ C X xs h false _ _ w frz s R)
theorem z5v (ic:ST G A P c) (ia:ST G A P a) (ib:ST G A P b):ST G A P (.ite c a b):=fun Γ C X e h Q σ w=>zs1 h fun t y z p h1 h2 h3 frz s R=>
 zed (arm_isTrue_IfExp _ _ _ _ _ _) (wpAny_bind ((ic Γ C X t h1 _ _ w).then R fun t σ₁ s₁ b1 c1 d1=>by
  cases t with
  | true=>exact zn (ia Γ C X y h2 _ _ d1 frz s₁ b1) fun _ _ h3=>h3.after c1
  | false=>exact zn (ib Γ C X z h3 _ _ d1 frz s₁ b1) fun _ _ h3=>h3.after c1))
theorem z5s {ops:List CmpOp} (ia:SE G A P a) (is:SL G A P es):ST G A P (.cmp a ops es):=fun Γ C X e h Q σ w=>zww h fun l cs p h1 h2 frz s R=>
 zed ((arm_isTrue_Compare _ _ _ _ _ _).trans (by rw[zjj _ h2])) (wpAny_bind ((ia Γ C X l h1 _ _ w).then R fun cv v σ₁ s₁ a1 b1 c1 d1=>
  zn (is.ct Γ C X cs h2 _ _ _ _ d1 p frz s₁ cv b1 a1) fun _ _ h3=>h3.after c1))
theorem zz3:SL G A P [] where
 es Γ C X es h Q σ w:=by cases za3 h;exact z6g w
 cs Γ C X es h Q σ w:=by cases za3 h;exact fun frz s r=>wpAny_pure ⟨σ,r,.refl _,w⟩
 ch Γ C X es h ops v Q σ w:=by cases ops<;>exact False.elim w
 ct Γ C X es h ops v Q σ w:=by cases ops<;>exact False.elim w
 bo Γ C X es h k Q σ w:=False.elim w
 ts Γ C X es h k Q σ w:=by
  cases za3 h
  exact fun frz s r=>zed (arm_allTrue_nil _ _) (by cases k<;>exact wpAny_pure ⟨σ,r,.refl _,w⟩)
theorem z6p (i:SX G A P a) (is:SL G A P es): ∀(Γ:FE) (C:SC),Cx G A P Γ C→∀(xs:List Expr),zz C (a::es) xs=true→∀(Q:List V→St→Prop) (σ:St),zj0 P (a::es) Q σ→Wn G A Γ xs.length (spliced (xs.map fun e=>(false,eval e Γ.env))) Q σ:=fun Γ C X xs h Q σ w=>by
 obtain⟨e,xs,rfl,_,h1,h2⟩:=yM h
 exact z1j fun frz s r=>(i.e Γ C X e h1 _ _ w).then r fun cv v σ₁ s₁ a1 b1 c1 d1=>⟨v,σ₁,a1,b1,c1,is.es Γ C X xs h2 _ _ d1⟩
theorem z6r (i:SX G A P a) (is:SL G A P es): ∀(Γ:FE) (C:SC),Cx G A P Γ C→∀(xs:List Expr),zz C (a::es) xs=true→∀(Q:Bool→St→Prop) (σ:St),zjy P true (a::es) Q σ→WB G A Γ (zg5 xs Γ.env) Q σ:=fun Γ C X xs h Q σ w=>by
 obtain⟨e,xs,rfl,_,h1,h2⟩:=yM h
 refine fun frz s r=>zsg ((i.t Γ C X e h1 _ _ w).then r fun b σ₁ s₁ b1 c1 d1=>?_)
 cases b with
 | true=>exact zn (is.cs Γ C X xs h2 _ _ d1 frz s₁ b1) fun _ _ h3=>h3.after c1
 | false=>exact zmg xs ⟨σ₁,b1,c1,d1⟩
theorem zz6 {Γ:FE}{frz:Frz}{σ:St}{s s₀:Shared}{op:CmpOp}{v u:V}{cv cu:Value}{Q:Bool→St→Prop} (hA:Rm A) (w:zck σ.mem op v u fun b=>Q b σ) (r:Rep G Γ frz σ s) (hv:RV s.heap cv v) (hu:RV s.heap cu u) (k:TK s₀.heap s.heap):
  wpAny (model G.prog G.w) A (compareOp op cv cu) (fun cr s'=> ∃b,cr= .bool b∧PB G Γ frz s₀ Q b s') NoE s:=
 zn (z1h hA.un w r hv hu) fun _ _ ⟨b,e,p,q,t⟩=>⟨b,e,σ,p,k.trans q,t⟩
theorem z6u (i:SX G A P a) (is:SL G A P es): ∀(Γ:FE) (C:SC),Cx G A P Γ C→∀(xs:List Expr),zz C (a::es) xs=true→∀(ops:List CmpOp) (v:V) (Q:Bool→St→Prop) (σ:St),zsm P ops (a::es) v Q σ→∀(pos:Pos) frz s cv,Rep G Γ frz σ s→RV s.heap cv v→
  wpAny (model G.prog G.w) A (compareChain pos cv ops (evalEach xs Γ.env)) (fun cr s'=> ∃b,cr= .bool b∧PB G Γ frz s Q b s') NoE s:=fun Γ C X xs h ops v Q σ w pos frz s cv r hv=>by
 obtain⟨e,xs,rfl,_,h1,h2⟩:=yM h
 cases ops with
 | nil=>exact False.elim w
 | cons op ops=>
 cases ops with
 | nil=>
  cases es with
  | cons=>exact False.elim w
  | nil=>
  cases za3 h2
  exact wpAny_bind (wpAny_holding ((i.e Γ C X e h1 _ _ w).then r fun cu u σ₁ s₁ a1 b1 c1 d1=>wpAny_bind (wpAny_standAt (wpAny_operating (zz6 X.a d1 b1 (hv.tk c1) a1 c1)))))
 | cons op' ops=>
  refine wpAny_bind (wpAny_holding ((i.e Γ C X e h1 _ _ w).then r fun cu u σ₁ s₁ a1 b1 c1 d1=>wpAny_bind (wpAny_standAt ?_)))
  refine wpAny_bind (wpAny_holding (zn (z1h X.a.un d1 b1 (hv.tk c1) a1) fun cr s₂ ⟨b,e,p,q,t⟩=>?_))
  subst e
  refine wpAny_bind (zee (wpAny_bind (wpAny_holding (wpAny_truthy_bool ?_))))
  cases b with
  | true=>exact zn (is.ch Γ C X xs h2 _ _ _ _ t pos frz s₂ cu p (a1.tk q)) fun _ _ ⟨b,e,h3⟩=>⟨b,e,h3.after (c1.trans q)⟩
  | false=>exact wpAny_pure ⟨false,rfl,σ₁,p,c1.trans q,t⟩
theorem z4o (i:SX G A P a) (is:SL G A P es): ∀(Γ:FE) (C:SC),Cx G A P Γ C→∀(xs:List Expr),zz C (a::es) xs=true→∀(ops:List CmpOp) (v:V) (Q:Bool→St→Prop) (σ:St),zsm P ops (a::es) v Q σ→∀(pos:Pos) frz s cv,Rep G Γ frz σ s→RV s.heap cv v→
  wpAny (model G.prog G.w) A (testChain pos cv ops (evalEach xs Γ.env)) (PB G Γ frz s Q) NoE s:=fun Γ C X xs h ops v Q σ w pos frz s cv r hv=>by
 obtain⟨e,xs,rfl,_,h1,h2⟩:=yM h
 cases ops with
 | nil=>exact False.elim w
 | cons op ops=>
 cases ops with
 | nil=>
  cases es with
  | cons=>exact False.elim w
  | nil=>
  cases za3 h2
  exact wpAny_bind (wpAny_holding ((i.e Γ C X e h1 _ _ w).then r fun cu u σ₁ s₁ a1 b1 c1 d1=>wpAny_bind (wpAny_standAt (wpAny_bind (wpAny_operating (zn (zz6 X.a d1 b1 (hv.tk c1) a1 c1) fun _ _ ⟨b,e,t⟩=>by subst e;exact wpAny_holding (wpAny_truthy_bool t)))))))
 | cons op' ops=>
  refine wpAny_bind (wpAny_holding ((i.e Γ C X e h1 _ _ w).then r fun cu u σ₁ s₁ a1 b1 c1 d1=>wpAny_bind (wpAny_standAt ?_)))
  refine wpAny_bind (wpAny_holding (zn (z1h X.a.un d1 b1 (hv.tk c1) a1) fun cr s₂ ⟨b,e,p,q,t⟩=>?_))
  subst e
  refine wpAny_bind (zee (wpAny_bind (wpAny_holding (wpAny_truthy_bool ?_))))
  cases b with
  | true=>exact zn (is.ct Γ C X xs h2 _ _ _ _ t pos frz s₂ cu p (a1.tk q)) fun _ _ h3=>h3.after (c1.trans q)
  | false=>exact wpAny_pure ⟨σ₁,p,c1.trans q,t⟩
theorem z5w (i:SX G A P a) (is:SL G A P es): ∀(Γ:FE) (C:SC),Cx G A P Γ C→∀(xs:List Expr),zz C (a::es) xs=true→∀(k:Bool) (Q:V→St→Prop) (σ:St),zwq P k (a::es) Q σ→∀(pos:Pos),W G A Γ (boolOp pos (if k then .And else .Or) (evalEach xs Γ.env)) Q σ:=fun Γ C X xs h k Q σ w pos frz s r=>by
 obtain⟨e,xs,rfl,_,h1,h2⟩:=yM h
 cases es with
 | nil=>
  cases za3 h2
  exact i.e Γ C X e h1 _ _ w frz s r
 | cons x' es=>
  have ih: ∀{s₂:Shared} {σ₁:St},TK s.heap s₂.heap→Rep G Γ frz σ₁ s₂→zwq P k (x'::es) Q σ₁→wpAny (model G.prog G.w) A (boolOp pos (if k then .And else .Or) (evalEach xs Γ.env)) (PV G Γ frz s Q) NoE s₂:=fun c1 p t=>zn (is.bo Γ C X xs h2 k _ _ t pos frz _ p) fun _ _ h3=>h3.after c1
  obtain⟨e',es',rfl,_,hx⟩:=yM h2
  refine wpAny_bind ((i.e Γ C X e h1 _ _ w).then r fun cv v σ₁ s₁ a1 b1 c1 d1=>wpAny_bind (wpAny_standAt (wpAny_bind (wpAny_holding (zn (zoy d1 b1 a1) fun b s₂ h3=>?_)))))
  obtain⟨p,q,t⟩:=h3
  cases k<;>cases b
  ·exact ih (c1.trans q) p t
  ·exact wpAny_pure ⟨v,σ₁,a1.tk q,p,c1.trans q,t⟩
  ·exact wpAny_pure ⟨v,σ₁,a1.tk q,p,c1.trans q,t⟩
  ·exact ih (c1.trans q) p t
theorem z6s (i:SX G A P a) (is:SL G A P es): ∀(Γ:FE) (C:SC),Cx G A P Γ C→∀(xs:List Expr),zz C (a::es) xs=true→∀(k:Bool) (Q:Bool→St→Prop) (σ:St),zjy P k (a::es) Q σ→WB G A Γ (allTrue (if k then .And else .Or) xs Γ.env) Q σ:=fun Γ C X xs h k Q σ w frz s r=>by
 obtain⟨e,xs,rfl,_,h1,h2⟩:=yM h
 refine zed (arm_allTrue_cons _ _ _ _) (wpAny_bind ((i.t Γ C X e h1 _ _ w).then r fun b σ₁ s₁ b1 c1 d1=>?_))
 cases k<;>cases b
 ·exact zn (is.ts Γ C X xs h2 false _ _ d1 frz s₁ b1) fun _ _ h3=>h3.after c1
 ·exact wpAny_pure ⟨σ₁,b1,c1,d1⟩
 ·exact wpAny_pure ⟨σ₁,b1,c1,d1⟩
 ·exact zn (is.ts Γ C X xs h2 true _ _ d1 frz s₁ b1) fun _ _ h3=>h3.after c1
end
theorem sx {x:Ex} (hw: ∀(Q:Bool→St→Prop) (σ:St),wpT P x (wpE P x) Q σ→wpE P x (fun v σ₁=>zK σ₁.mem v fun b=>Q b σ₁) σ) (ih:SE G A P x) (hx: ∀C e,zo C x e=true→zb9 e=true):SX G A P x:=⟨ih,zw5 ih hx hw⟩
theorem zi4 {e:Expr}{K:Expr→List Expr→List Keyword→Pos→Bool} (h:zgl e K=true):zb9 e=true:=zk3 (e:=e) (K:=K) (M:=fun e=>zb9 e=true) h fun _ _ _ _ _=>rfl
theorem z0h {e:Expr}{K:Expr→Expr→Bool} (h:zms e K=true):zb9 e=true:=zg9 (e:=e) (K:=K) (M:=fun e=>zb9 e=true) h fun _ _ _ _=>rfl
theorem z6c {C:SC}{a:Ex}{e:Expr} (h:zo C (.neg a) e=true):zb9 e=true:=by refine zt1 h ?_;intro _ _ _;rfl
theorem zU:(x:Ex)→SX G A P x:=Ex.rec (motive_1:=SX G A P) (motive_2:=SL G A P)
 (fun v=>sx (fun _ _ w=>w) z4h fun _ e h=>znq (e:=e) (K:=fun c=>zx3 v c) (M:=fun e=>zb9 e=true) h fun _ _ _ _=>rfl)
 (fun i=>sx (fun _ _ w=>w) z4j fun C e h=>zez (e:=e) (K:=fun n=>C.is i n) (M:=fun e=>zb9 e=true) h fun _ _ _=>rfl)
 (fun op a b ia ib=>sx (fun _ _ w=>w) (z59 ia.e ib.e) fun C e h=>zwc (e:=e) (K:=fun l o r=>op==o&&(zo C a l&&zo C b r)) (M:=fun e=>zb9 e=true) h fun _ _ _ _ _=>rfl)
 (fun a ia=>sx (fun _ _ w=>w) (z6w ia.e) fun C e h=>z6c h)
 (fun a ia=>⟨z40 ia.e,z6m ia.t⟩)
 (fun c a b ic ia ib=>⟨z5m ic.t ia.e ib.e,z5v ic.t ia.t ib.t⟩)
 (fun es is=>sx (fun _ _ w=>w) (z0z is) fun C e h=>zp1 (e:=e) (K:=fun xs=>decide (xs.length<1000)&&zz C es xs) (M:=fun e=>zb9 e=true) h fun _ _ _=>rfl)
 (fun es is=>sx (fun _ _ w=>w) (z6h is) fun C e h=>zlo (e:=e) (K:=fun xs=>decide (xs.length<1000)&&zz C es xs) (M:=fun e=>zb9 e=true) h fun _ _ _ _=>rfl)
 (fun a ops es ia is=>⟨z54 ia.e is,z5s ia.e is⟩)
 (fun es is=>⟨z1n is,z11 is⟩)
 (fun es is=>⟨z52 is,z4f is⟩)
 (fun a i ia ii=>sx (fun _ _ w=>w) (z5k ia.e ii.e) fun _ _ h=>z0h h)
 (fun a lo hi st ia il ih is=>sx (fun _ _ w=>w) (z4c ia.e il.e ih.e is.e) fun _ _ h=>z0h h)
 (fun o n io=>sx (fun _ _ w=>w) (z1y io.e) fun C e h=>zh4 (e:=e) (K:=fun v y _=>Str.ofString n==y&&(zbu v&&zo C o v)) (M:=fun e=>zb9 e=true) h fun _ _ _ _=>rfl)
 (fun b es is=>sx (fun _ _ w=>w) (z8n is) fun _ _ h=>zi4 h)
 (fun f es is=>sx (fun _ _ w=>w) (z0v is) fun _ _ h=>zi4 h)
 (fun o m es io is=>sx (fun _ _ w=>w) (z8o io.e is) fun _ _ h=>zi4 h)
 (fun o n es io is=>sx (fun _ _ w=>w) (zw8 io.e is) fun _ _ h=>zi4 (zb h).2)
 (fun i es is=>sx (fun _ _ w=>w) (zxx is) fun _ _ h=>zi4 h)
 (fun elt one is it cs n caps ie ii ic=>sx (fun _ _ w=>w) (z2n ie.e ii.e ic) fun _ e h=>by obtain⟨_,_,_,_,_,_,rfl,_⟩:=zh8 h;rfl)
 (fun elt one is it iti j n caps ie ii ij=>sx (fun _ _ w=>w) (zxo ie.e ii.e ij.e) fun _ e h=>by obtain⟨_,_,_,_,_,_,_,rfl,_⟩:=zft h;rfl)
 zz3
 (fun x xs ix is=>⟨z6p ix is,z6r ix is,z6u ix is,z4o ix is,z5w ix is,z6s ix is⟩)
theorem zjl: ∀xs:List Ex,SL G A P xs
 | []=>zz3
 | x::xs=>⟨z6p (zU x) (zjl xs),z6r (zU x) (zjl xs),z6u (zU x) (zjl xs),z4o (zU x) (zjl xs),z5w (zU x) (zjl xs),z6s (zU x) (zjl xs)⟩
end
noncomputable def notComp (e:Expr):Bool:=e.ctorIdx !=8&&(e.ctorIdx !=9&&e.ctorIdx !=10)
noncomputable def zea:Ex→Bool
 | .comp ..=>true
 | .comp2 ..=>true
 | _=>false
theorem zka {value:Expr} (h:notComp value=true) (t:Option Expr) (l:Nat) (env:Env):swapsWith value t l env=pure false:=by
 cases value<;>first | exact absurd h Bool.false_ne_true | rfl
theorem zr1 {value:Expr} (h:notComp value=true) (l:Nat) (env:Env): ∀targets,swapsWithSole targets value l env=pure false
 | []=>rfl
 | [_]=>zka h _ _ _
 | _::_::_=>rfl
noncomputable def zjx (C:SC) (t:Tg) (x:Expr):Bool:=match t with
 | .var i=>zc3 x fun n=>C.isW i n
 | .tup is=>isTup x fun xs=>zgb is&&zgx C is xs
 | .idx o i=>zms x fun v s=>zo C o v&&zo C i s
 | .slc o lo hi=>zms x fun v s=>zjn s fun l u k=>k.isNone&&(zo C o v&&(zny C lo l&&zny C hi u))
 | .attr o n=>zis x fun v y _=>Str.ofString n==y&&zo C o v
noncomputable def zb7 (C:SC):List Tg→List Expr→Bool
 | [],xs=>xs.isEmpty
 | t::ts,xs=>xs.head?.any fun e=>zT e&&zjx C t e&&zb7 C ts xs.tail
theorem zg8 {C:SC}{xs:List Expr} (h:zb7 C [] xs=true):xs=[]:=by
 cases xs with
 | nil=>rfl
 | cons=>cases h
theorem zbv {C:SC}{t:Tg}{ts:List Tg}{xs:List Expr} (h:zb7 C (t::ts) xs=true): ∃e es,xs=e::es∧zT e=true∧zjx C t e=true∧zb7 C ts es=true:=by
 cases xs with
 | nil=>cases h
 | cons e es=>
  have h:(zT e&&zjx C t e&&zb7 C ts es)=true:=h
  rw[Bool.and_eq_true,Bool.and_eq_true] at h
  exact⟨e,es,rfl,h.1.1,h.1.2,h.2⟩
noncomputable def zpn (targets:List Expr) (value:Expr):Bool:=
 targets.head?.any fun t=>t.ctorIdx !=24&&(t.ctorIdx !=25||(value.ctorIdx !=25||isTup value fun vs=>!vs.all (constantsAlone 8)||vs.all (foldedForSure 8)))
noncomputable def zvp (x:Stmt) (K:Expr→Bool):Bool:=if h:x.ctorIdx=24 then Stmt.Expr.elim (motive_2:=fun _=>Bool) x h fun y _=>K y else false
theorem zva {x:Stmt}{K:Expr→Bool}{M:Stmt→Prop} (h:zvp x K=true) (kk: ∀(y:Expr) (p:Pos),K y=true→M (.Expr y p)):M x:=
 let ⟨i,q⟩:=zbx h
 Stmt.Expr.elim (motive_2:=fun x=> ∀i,Stmt.Expr.elim (motive_2:=fun _=>Bool) x i (fun y _=>K y)=true→M x) x i (fun y p _ q=>kk y p q) i q
noncomputable def zqo (x:Stmt) (K:List Expr→Expr→Bool):Bool:=if h:x.ctorIdx=5 then Stmt.Assign.elim (motive_2:=fun _=>Bool) x h fun xs y _=>K xs y else false
theorem zsb {x:Stmt}{K:List Expr→Expr→Bool}{M:Stmt→Prop} (h:zqo x K=true) (kk: ∀(xs:List Expr) (y:Expr) (p:Pos),K xs y=true→M (.Assign xs y p)):M x:=
 let ⟨i,q⟩:=zbx h
 Stmt.Assign.elim (motive_2:=fun x=> ∀i,Stmt.Assign.elim (motive_2:=fun _=>Bool) x i (fun xs y _=>K xs y)=true→M x) x i (fun xs y p _ q=>kk xs y p q) i q
noncomputable def z42 (x:Stmt) (K:Expr→Operator→Expr→Bool):Bool:=if h:x.ctorIdx=7 then Stmt.AugAssign.elim (motive_2:=fun _=>Bool) x h fun t o y _=>K t o y else false
theorem z1e {x:Stmt}{K:Expr→Operator→Expr→Bool}{M:Stmt→Prop} (h:z42 x K=true) (kk: ∀(t:Expr) (o:Operator) (y:Expr) (p:Pos),K t o y=true→M (.AugAssign t o y p)):M x:=
 let ⟨i,q⟩:=zbx h
 Stmt.AugAssign.elim (motive_2:=fun x=> ∀i,Stmt.AugAssign.elim (motive_2:=fun _=>Bool) x i (fun t o y _=>K t o y)=true→M x) x i (fun t o y p _ q=>kk t o y p q) i q
noncomputable def z4b (x:Stmt) (K:Expr→List Stmt→List Stmt→Bool):Bool:=if h:x.ctorIdx=12 then Stmt.If.elim (motive_2:=fun _=>Bool) x h fun t y z _=>K t y z else false
theorem z26 {x:Stmt}{K:Expr→List Stmt→List Stmt→Bool}{M:Stmt→Prop} (h:z4b x K=true) (kk: ∀(t:Expr) (y:List Stmt) (z:List Stmt) (p:Pos),K t y z=true→M (.If t y z p)):M x:=
 let ⟨i,q⟩:=zbx h
 Stmt.If.elim (motive_2:=fun x=> ∀i,Stmt.If.elim (motive_2:=fun _=>Bool) x i (fun t y z _=>K t y z)=true→M x) x i (fun t y z p _ q=>kk t y z p q) i q
noncomputable def zuz (x:Stmt) (K:Expr→List Stmt→List Stmt→Bool):Bool:=if h:x.ctorIdx=11 then Stmt.While.elim (motive_2:=fun _=>Bool) x h fun t y z _=>K t y z else false
theorem zu5 {x:Stmt}{K:Expr→List Stmt→List Stmt→Bool}{M:Stmt→Prop} (h:zuz x K=true) (kk: ∀(t:Expr) (y:List Stmt) (z:List Stmt) (p:Pos),K t y z=true→M (.While t y z p)):M x:=
 let ⟨i,q⟩:=zbx h
 Stmt.While.elim (motive_2:=fun x=> ∀i,Stmt.While.elim (motive_2:=fun _=>Bool) x i (fun t y z _=>K t y z)=true→M x) x i (fun t y z p _ q=>kk t y z p q) i q
noncomputable def z5n (x:Stmt) (K:Expr→Expr→List Stmt→List Stmt→Bool):Bool:=if h:x.ctorIdx=9 then Stmt.For.elim (motive_2:=fun _=>Bool) x h fun tg e y z _=>K tg e y z else false
theorem z2m {x:Stmt}{K:Expr→Expr→List Stmt→List Stmt→Bool}{M:Stmt→Prop} (h:z5n x K=true) (kk: ∀(tg:Expr) (e:Expr) (y:List Stmt) (z:List Stmt) (p:Pos),K tg e y z=true→M (.For tg e y z p)):M x:=
 let ⟨i,q⟩:=zbx h
 Stmt.For.elim (motive_2:=fun x=> ∀i,Stmt.For.elim (motive_2:=fun _=>Bool) x i (fun tg e y z _=>K tg e y z)=true→M x) x i (fun tg e y z p _ q=>kk tg e y z p q) i q
noncomputable def z6l (x:Stmt) (K:Option Expr→Bool):Bool:=if h:x.ctorIdx=3 then Stmt.Return.elim (motive_2:=fun _=>Bool) x h fun y _=>K y else false
theorem z2j {x:Stmt}{K:Option Expr→Bool}{M:Stmt→Prop} (h:z6l x K=true) (kk: ∀(y:Option Expr) (p:Pos),K y=true→M (.Return y p)):M x:=
 let ⟨i,q⟩:=zbx h
 Stmt.Return.elim (motive_2:=fun x=> ∀i,Stmt.Return.elim (motive_2:=fun _=>Bool) x i (fun y _=>K y)=true→M x) x i (fun y p _ q=>kk y p q) i q
noncomputable def z4e (x:Stmt) (K:Pos→Bool):Bool:=if h:x.ctorIdx=26 then Stmt.Break.elim (motive_2:=fun _=>Bool) x h fun p=>K p else false
theorem z3l {x:Stmt}{K:Pos→Bool}{M:Stmt→Prop} (h:z4e x K=true) (kk: ∀(p:Pos),K p=true→M (.Break p)):M x:=
 let ⟨i,q⟩:=zbx h
 Stmt.Break.elim (motive_2:=fun x=> ∀i,Stmt.Break.elim (motive_2:=fun _=>Bool) x i (fun p=>K p)=true→M x) x i (fun p _ q=>kk p q) i q
noncomputable def z5r (x:Stmt) (K:List Expr→Bool):Bool:=if h:x.ctorIdx=4 then Stmt.Delete.elim (motive_2:=fun _=>Bool) x h fun xs _=>K xs else false
theorem z24 {x:Stmt}{K:List Expr→Bool}{M:Stmt→Prop} (h:z5r x K=true) (kk: ∀(xs:List Expr) (p:Pos),K xs=true→M (.Delete xs p)):M x:=
 let ⟨i,q⟩:=zbx h
 Stmt.Delete.elim (motive_2:=fun x=> ∀i,Stmt.Delete.elim (motive_2:=fun _=>Bool) x i (fun xs _=>K xs)=true→M x) x i (fun xs p _ q=>kk xs p q) i q
noncomputable def z8j (xs:List Expr) (K:Expr→Bool):Bool:=match xs with
 | []=>false
 | y::r=>r.isEmpty&&K y
theorem zyt {xs:List Expr}{K:Expr→Bool} (h:z8j xs K=true): ∃y,xs=[y]∧K y=true:=by
 match xs,h with
 | [y],h=>exact⟨y,rfl,h⟩
noncomputable def z0p (x:Sm):Bool:=match x with
 | .junk=>true
 | _=>false
theorem zr7 {x:Sm} (h:z0p x=true):x= .junk:=by cases x<;>first | rfl | exact absurd h Bool.false_ne_true
mutual
noncomputable def z8l (C:SC):Sm→Stmt→Bool
 | .expr e,x=>zvp x fun y=>notComp y&&zo C e y
 | .assign ts e,x=>zqo x fun xs y=>(zea e||notComp y)&&(zpn xs y&&(zb7 C ts xs&&zo C e y))
 | .aug i op e,x=>z42 x fun t o y=>zc3 t fun n=>C.isW i n&&(op==o&&zo C e y)
 | .del o i,x=>z5r x fun xs=>z8j xs fun y=>zms y fun v s=>zo C o v&&zo C i s
 | .ife c a b,x=>z4b x fun t y z=>zo C c t&&(zc6 C a y&&zc6 C b z)
 | .whl c b,x=>zuz x fun t y z=>z.isEmpty&&(zo C c t&&zc6 C b y)
 | .fr t it b,x=>z5n x fun tg e y z=>z.isEmpty&&(zT e&&(zjx C t tg&&(zo C it e&&zc6 C b y)))
 | .ret e,x=>z6l x fun y=>zny C e y
 | .brk,x=>z4e x fun _=>true
 | .junk,_=>false
noncomputable def zc6 (C:SC):List Sm→List Stmt→Bool
 | [],xs=>xs.isEmpty
 | a::as,xs=>z0p a||xs.head?.any fun e=>z8l C a e&&zc6 C as xs.tail
end
theorem zm3 {C:SC}{xs:List Stmt} (h:zc6 C [] xs=true):xs=[]:=by
 cases xs with
 | nil=>rfl
 | cons=>cases h
theorem zkf {C:SC}{t:Sm}{ts:List Sm}{xs:List Stmt} (h:zc6 C (t::ts) xs=true):t= .junk∨∃e es,xs=e::es∧z8l C t e=true∧zc6 C ts es=true:=by
 rcases (Bool.or_eq_true _ _).mp h with h | h
 ·exact .inl (zr7 h)
 ·cases xs with
  | nil=>cases h
  | cons e es=>exact .inr ⟨e,es,rfl,zb h⟩
section
variable {G:GS}{A:Around}{Γ:FE}{frz:Frz}{σ:St}{s:Shared}
theorem zhw {l:Addr}{arr:Array Value}{n:Nat}{k:Int}{t:Tok}{j:Nat}{v:Value}{E:Value→Shared→Prop}{Q:Unit→Shared→Prop} (hl:s.heap.get? l=some {cls:= .type "list",data:= .seq arr n})
  (hk:tiny k) (hj:seqIndex? k arr.size=some j) (h:Q () {s with heap:=s.heap.update l (Obj.mapSeq (·.setIfInBounds j v))}):wpAny (model G.prog G.w) A (setItem (.ref l) (.int k t) v) Q E s:=by
 have hL:s.heap.IsList l arr:=⟨_,hl,rfl,n,rfl⟩
 obtain⟨j0,hx⟩:j<arr.size∧(0≤k→j=k.toNat):=⟨(zfg hj).1,(zfg hj).2⟩
 have hx':arr[j]? =some arr[j]:=Array.getElem?_eq_getElem j0
 unfold setItem
 try with_reducible refine wpAny_holding ?_
 first | refine wpAny_bind (wpAny_pure ?_) | skip
 refine wpAny_bind (wpAny_sequenceKey hL.typeIs (by decide) ?_)
 refine wpAny_bind (wpAny_callSpecial?_slot (name:=Str.ofString "__setitem__") hL.typeIs slot_list_setitem
  (wpAny_call_entry slot_list_setitem hL.typeIs entry_list_setitem ?_ (args_list_setitem _ _ _)))
 show wpAny _ _ (Builtin.List.listSubscript? (.int k t) >>=_) _ _ s
 refine wpAny_bind (wpAny_listSubscript_int (zid hk) ?_)
 by_cases h0:0≤k
 ·have:=hx h0
  subst this
  obtain⟨j,rfl⟩:=Int.eq_ofNat_of_zero_le h0
  show wpAny _ _ ((seqItemAt l j >>=fun r=>pure (r.map (j,·))) >>=_) _ _ s
  refine wpAny_bind (wpAny_bind (wpAny_seqItemAt hl rfl (wpAny_pure ?_)))
  rw[show arr[j]? =some arr[j] from hx']
  show wpAny _ _ (setSeqItemAt l j v >>=_) _ _ s
  refine wpAny_bind (wpAny_setSeqItemAt hl rfl ?_)
  first
   | exact wpAny_bind (wpAny_pure (wpAny_pure ⟨.none,rfl,wpAny_pure h⟩))
   | exact wpAny_pure ⟨.none,rfl,wpAny_pure h⟩
 ·refine bc fun z9=>?_
  obtain⟨m,rfl⟩: ∃m:Nat,k=Int.negSucc m:=⟨(-k-1).toNat,by grind⟩
  refine z9 ?_
  show wpAny _ _ ((Builtin.List.listItems (.ref l) >>=fun xs=>pure ((seqIndex? (Int.negSucc m) xs.size).bind fun j=>xs[j]?.map (j,·))) >>=_) _ _ s
  refine wpAny_bind (wpAny_bind (wpAny_listItems hl rfl (wpAny_pure ?_)))
  rw[hj]
  simp only[Option.bind_some,hx',Option.map_some]
  show wpAny _ _ (setSeqItemAt l j v >>=_) _ _ s
  refine wpAny_bind (wpAny_setSeqItemAt hl rfl ?_)
  first
   | exact wpAny_bind (wpAny_pure (wpAny_pure ⟨.none,rfl,wpAny_pure h⟩))
   | exact wpAny_pure ⟨.none,rfl,wpAny_pure h⟩
theorem zw1 {arr new:Array Value}{x y:Int} (hz:arr.size+new.size≤2000000):(arr.extract 0 x.toNat++new++arr.extract (max x y).toNat arr.size).size≤sizeLine+1:=by
 have h:min x.toNat arr.size+(arr.size-(max x y).toNat)≤arr.size:=by
  rcases Nat.le_total x.toNat arr.size with h | h
  ·rw[Nat.min_eq_left h]
   exact ntr (Nat.add_le_add_left (Nat.sub_le_sub_left (Int.toNat_le_toNat (Int.le_max_left x y)) _) _) (Nat.le_of_eq (Nat.add_sub_cancel' h))
  ·rw[Nat.min_eq_right h,Nat.sub_eq_zero_of_le (ntr h (Int.toNat_le_toNat (Int.le_max_left x y)))];exact Nat.le_refl _
 rw[Array.size_append,Array.size_append,Array.size_extract,Array.size_extract,Nat.min_self,Nat.sub_zero,sizeLine_eq,Nat.add_right_comm]
 exact ntr (Nat.add_le_add_right h _) (ntr hz (by decide))
theorem zf7 {l sl b:Addr}{arr new:Array Value}{n:Nat}{vl vu:Value}{lo hi:Option Int}{E:Value→Shared→Prop}{Q:Unit→Shared→Prop} (hl:s.heap.get? l=some {cls:= .type "list",data:= .seq arr n})
  (hs:s.heap.IsSliceOf sl vl vu .none) (pl:IsPart vl lo) (pu:IsPart vu hi) (hb:s.heap.IsList b new) (hne:l≠b) (hz:arr.size+new.size≤2000000)
  (h:Q () {s with heap:=s.heap.update l (Obj.mapSeq fun xs=>xs.extract 0 (sliceBounds lo hi none arr.size).1.toNat++new++xs.extract (max (sliceBounds lo hi none arr.size).1 (sliceBounds lo hi none arr.size).2.1).toNat xs.size)}):
  wpAny (model G.prog G.w) A (setItem (.ref l) (.ref sl) (.ref b)) Q E s:=by
 have hL:s.heap.IsList l arr:=⟨_,hl,rfl,n,rfl⟩
 obtain⟨os,hos,hcs,hds⟩:=id hs
 obtain⟨ob,hob,hcb,nb,hdb⟩:=id hb
 have hTs:s.TypeIs (.ref sl) "slice":=⟨os,hos,hcs⟩
 unfold setItem
 try with_reducible refine wpAny_holding ?_
 first | refine wpAny_bind (wpAny_pure ?_) | skip
 refine wpAny_bind (wpAny_sequenceKey hL.typeIs (by decide) ?_)
 refine wpAny_bind (wpAny_callSpecial?_slot (name:=Str.ofString "__setitem__") hL.typeIs slot_list_setitem
  (wpAny_call_entry slot_list_setitem hL.typeIs entry_list_setitem ?_ (args_list_setitem _ _ _)))
 show wpAny _ _ (Builtin.List.listSubscript? (.ref sl) >>=_) _ _ s
 refine wpAny_bind ?_
 unfold Builtin.List.listSubscript?
 refine wpAny_bind (wpAny_specialOf hTs slice_no_index ?_)
 (dsimp only[Option.isNone_none,if_true];simp only[Option.isNone_none,if_true])
 refine wpAny_pure ?_
 show wpAny _ _ (typeOf (.ref sl) >>=_) _ _ s
 refine wpAny_bind (wpAny_typeOf hTs ?_)
 rw[if_neg (by decide)]
 rw[listSliceParts_eq]
 refine wpAny_bind (wpAny_bind (wpAny_field hos hds (x:= .none) rfl (wpAny_bind (wpAny_listPart .none ?_))))
 rw[if_neg (show ¬((rawPart none==rawInt 0)=true) from Bool.false_ne_true)]
 refine wpAny_bind (wpAny_field hos hds (x:=vl) rfl (wpAny_bind (wpAny_listPart pl ?_)))
 refine wpAny_bind (wpAny_field hos hds (x:=vu) rfl (wpAny_bind (wpAny_listPart pu (wpAny_pure ?_))))
 dsimp only
 rw[if_neg (show ¬(Builtin.List.listSameRef (.ref l) (.ref b)=true) by simpa [Builtin.List.listSameRef] using hne)]
 refine wpAny_bind ?_
 unfold Builtin.List.listAllItems
 refine wpAny_bind (wpAny_typeOf hb.typeIs ?_)
 rw[if_pos (by decide)]
 unfold Builtin.List.listItems
 refine wpAny_bind (wpAny_seqItems hob hdb (wpAny_pure ?_))
 refine wpAny_bind (wpAny_bind (wpAny_seqItems hl rfl (wpAny_pure ?_)))
 refine wpAny_bind (wpAny_of_eq (sliceIndices_raw lo hi none arr.size (by simp)) ?_)
 have hst:(sliceBounds lo hi none arr.size).2.2=1:=rfl
 generalize hB:sliceBounds lo hi none arr.size=B at h hst ⊢
 obtain⟨x,y,z⟩:=B
 dsimp only at hst h ⊢
 subst hst
 rw[if_pos (by decide)]
 refine wpAny_bind (wpAny_rule ?_)
 rw[if_neg (by simp[Builtin.List.listTooLong,sizeLine];exact zc 509537398343633850088033730280559656 rfl hz)]
 have hz':((fun xs:Array Value=>xs.extract 0 x.toNat++new++xs.extract (max x y).toNat xs.size) arr).size≤sizeLine+1:=zw1 hz
 refine wpAny_bind (wpAny_updateSeq (f:=fun xs:Array Value=>xs.extract 0 x.toNat++new++xs.extract (max x y).toNat xs.size) hl rfl ?_ (hz:=by rw[sizeLine_eq];exact zc 497595115569372048514168807494696 rfl hz) (_hz':=hz'))
 refine wpAny_bind (wpAny_letGo ?_)
 first
  | exact wpAny_bind (wpAny_pure (wpAny_pure ⟨.none,rfl,wpAny_pure h⟩))
  | exact wpAny_pure ⟨.none,rfl,wpAny_pure h⟩
theorem z3i (a b:Nat):(max (a:Int) (b:Int)).toNat=max a b:=by
 rcases Nat.le_total a b with h | h
 ·rw[Int.max_eq_right (Int.ofNat_le.mpr h),Nat.max_eq_right h];rfl
 ·rw[Int.max_eq_left (Int.ofNat_le.mpr h),Nat.max_eq_left h];rfl
theorem zky {lo hi:Option Int}{n:Nat}:(sliceBounds lo hi none n).1.toNat=zfp n lo∧(max (sliceBounds lo hi none n).1 (sliceBounds lo hi none n).2.1).toNat=max (zfp n lo) (zh3 n hi):=by
 rw[sliceBounds_plain]
 exact⟨Int.toNat_natCast _,by show(max ((zfp n lo:Nat):Int) ((zh3 n hi:Nat):Int)).toNat=_;exact z3i _ _⟩
theorem zrz {l b sl:Addr}{vs us:List V}{lo hi:Option Int}{vl vu:Value} (ok:Γ.ok) (r:Rep G Γ frz σ s) (e:σ.mem l=some (.list vs)) (eb:σ.mem b=some (.list us)) (hne:l≠b) (h1:sma vs.length) (h2:sma us.length)
  (hs:s.heap.IsSliceOf sl vl vu .none) (pl:IsPart vl lo) (pu:IsPart vu hi):
  wpAny (model G.prog G.w) A (setItem (.ref l) (.ref sl) (.ref b)) (fun _ s'=>Rep G Γ frz {σ with mem:=upd σ.mem l (.list (vs.take (zfp vs.length lo)++us++vs.drop (max (zfp vs.length lo) (zh3 vs.length hi))))} s'∧TK s.heap s'.heap) NoE s:=by
 refine bc fun z9=>?_
 obtain⟨arr,n,g,rs,hz⟩:=(r.hmem _ _ e).l
 refine z9 ?_
 refine bc fun z9=>?_
 obtain⟨arr2,n2,g2,rs2,hz2⟩:=(r.hmem _ _ eb).l
 refine z9 ?_
 refine zf7 g hs pl pu ⟨_,g2,rfl,n2,rfl⟩ hne (by rw[hz,hz2];exact Nat.add_le_add h1 h2) ?_
 have key: ∀h',TK s.heap h'→RVs h' (arr.extract 0 (sliceBounds lo hi none arr.size).1.toNat++arr2++arr.extract (max (sliceBounds lo hi none arr.size).1 (sliceBounds lo hi none arr.size).2.1).toNat arr.size).toList
   (vs.take (zfp vs.length lo)++us++vs.drop (max (zfp vs.length lo) (zh3 vs.length hi))):=fun h' k=>by
  simp only[zky.1,zky.2,Array.toList_append,Array.toList_append,Array.toList_extract,Array.toList_extract,List.extract_eq_take_drop,List.extract_eq_take_drop,List.drop_zero,Nat.sub_zero,hz]
  refine((rs.tk k).take _ |>.append (rs2.tk k)).append ?_
  rw[List.take_of_length_le (by rw[List.length_drop,Array.length_toList,hz];exact Nat.le_refl _)]
  exact(rs.tk k).drop _
 exact r.change ok (tk:=s.toks) (o:= .list _) e (fun b o hb e=>(Heap.get?_update_other _ _ (Ne.symm hb)).trans e) (fun k=> .list (Heap.get?_update_self _ g rfl) (key _ k))
theorem zwd {l:Addr}{vs:List V}{k:Int}{j:Nat}{v:V}{cv ck:Value} (ok:Γ.ok) (r:Rep G Γ frz σ s) (e:σ.mem l=some (.list vs)) (hk:tiny k) (hj:zpz vs.length k=some j) (hc:RV s.heap ck (.int k)) (hv:RV s.heap cv v):
  wpAny (model G.prog G.w) A (setItem (.ref l) ck cv) (fun _ s'=>Rep G Γ frz {σ with mem:=upd σ.mem l (.list (vs.set j v))} s'∧TK s.heap s'.heap) NoE s:=by
 refine bc fun z9=>?_
 obtain⟨arr,n,g,rs,hz⟩:=(r.hmem _ _ e).l
 refine z9 ?_
 exact hc.eI fun _=>zhw g hk (by rw[hz];exact hj) (r.change ok (tk:=s.toks) (o:= .list (vs.set j v)) e (h':=s.heap.update l (Obj.mapSeq (·.setIfInBounds j cv))) (fun b o hb e=>(Heap.get?_update_other _ _ (Ne.symm hb)).trans e)
  (fun k=> .list (Heap.get?_update_self _ g rfl) (by show RVs _ (arr.setIfInBounds j cv).toList _;rw[Array.toList_setIfInBounds];exact(rs.tk k).set j (hv.tk k))))
theorem zuk {α:Type}{c:Prop} [Decidable c] {a b:α} (P:α→Prop) (h1:c→P a) (h2: ¬c→P b):P (if c then a else b):=by
 by_cases h:c
 ·rw[if_pos h];exact h1 h
 ·rw[if_neg h];exact h2 h
theorem zsh {ts vs:List Expr}{k k':Nat}{p p':Pos}{env:Env} (h:(!vs.all (constantsAlone 8)||vs.all (foldedForSure 8))=true):
  swappedStores [.Tuple ts k p] (.Tuple vs k' p') env=pure none∨∃f,swappedStores [.Tuple ts k p] (.Tuple vs k' p') env=pure (some (ts.filterMap (yS f)))∧(ts.filterMap (yS f)).length=ts.length∧(ts.length=2∨ts.length=3):=by
 refine zuk (fun x=>x=pure none∨∃f,x=pure (some (ts.filterMap (yS f)))∧(ts.filterMap (yS f)).length=ts.length∧(ts.length=2∨ts.length=3)) (fun _=> .inl rfl) fun c1=>?_
 refine zuk (fun x=>x=pure none∨∃f,x=pure (some (ts.filterMap (yS f)))∧(ts.filterMap (yS f)).length=ts.length∧(ts.length=2∨ts.length=3)) (fun _=> .inl rfl) fun _=>?_
 refine zuk (fun x=>x=pure none∨∃f,x=pure (some (ts.filterMap (yS f)))∧(ts.filterMap (yS f)).length=ts.length∧(ts.length=2∨ts.length=3)) (fun _=> .inl rfl) fun c3=>?_
 refine zuk (fun x=>x=pure none∨∃f,x=pure (some (ts.filterMap (yS f)))∧(ts.filterMap (yS f)).length=ts.length∧(ts.length=2∨ts.length=3)) (fun _=> .inl rfl) fun c4=>?_
 refine zuk (fun x=>x=pure none∨∃f,x=pure (some (ts.filterMap (yS f)))∧(ts.filterMap (yS f)).length=ts.length∧(ts.length=2∨ts.length=3)) (fun c5=>?_) fun _=>?_
 ·rw[c5] at h
  simp at h
  exact absurd (by simpa using h) c4
 ·refine .inr ⟨fun id pos=>env.kindOf id==some .local&&pos.line==(ts.head?.map (·.pos.line)).getD 0,rfl,?_,?_⟩
  ·have:=c3
   simp only[Bool.or_eq_true,not_or,bne_iff_ne,ne_eq,Decidable.not_not] at this
   exact this.1
  ·simp only[Bool.or_eq_true,not_or,bne_iff_ne,ne_eq,Decidable.not_not,Bool.not_eq_true',Bool.or_eq_false_iff,not_and,beq_eq_false_iff_ne] at c1
   by_cases q:ts.length=2
   ·exact .inl q
   ·exact .inr (c1.1.1 q)
theorem zic (σ:St) {i j:Nat} (a b:V) (h:i≠j):(σ.set i a).set j b=(σ.set j b).set i a:=by
 exact congrArg (fun l=>(⟨l,σ.mem⟩:St)) (List.set_comm _ _ h)
theorem zpd {α:Type}{l:List α} (h:l.length=2): ∃a b,l=[a,b]:=by
 cases l with
 | nil=>cases h
 | cons a l=>cases l with
  | nil=>cases h
  | cons b l=>cases l with
   | nil=>exact⟨a,b,rfl⟩
   | cons c l=>exact absurd (Nat.succ.inj (Nat.succ.inj h)) (Nat.succ_ne_zero _)
theorem zl3 {α:Type}{l:List α} (h:l.length=3): ∃a b c,l=[a,b,c]:=by
 cases l with
 | nil=>cases h
 | cons a l=>obtain⟨b,c,rfl⟩:=zpd (Nat.succ.inj h);exact⟨a,b,c,rfl⟩
theorem zrq {σ:St}{is:List Nat}{vs:List V} (h:zgb is=true) (hl:is.length=vs.length) (hn:is.length=2∨is.length=3):σ.setAll is.reverse vs.reverse=σ.setAll is vs:=by
 rcases hn with hn | hn
 ·obtain⟨i,j,rfl⟩:=zpd hn
  obtain⟨a,b,rfl⟩:=zpd hl.symm
  simp[zgb] at h
  show(σ.set j b).set i a=(σ.set i a).set j b
  rw[zic];lia
 ·obtain⟨i,j,k,rfl⟩:=zl3 hn
  obtain⟨a,b,c,rfl⟩:=zl3 hl.symm
  simp[zgb] at h
  show((σ.set k c).set j b).set i a=((σ.set i a).set j b).set k c
  rw[zic σ c b (by lia),zic _ c a (by lia),zic σ b a (by lia)]
end
section
variable {G:GS}{A:Around}{Γ:FE}{frz:Frz}{σ:St}{s:Shared}
variable {P:PC}{C:SC}
theorem z5c {o i:Ex}{e:Expr} (X:Cx G A P Γ C) (h:zjx C (.idx o i) e=true) {v:V}{cv:Value}{Q:St→Prop} (w:zkp P (.idx o i) v Q σ) (r:Rep G Γ frz σ s) (hv:RV s.heap cv v):
  wpAny (model G.prog G.w) A (assign e Γ.env cv) (PU G Γ frz s Q) NoE s:=
 zg9 (e:=e) (K:=fun v s=>zo C o v&&zo C i s) (M:=fun e=>wpAny (model G.prog G.w) A (assign e Γ.env cv) (PU G Γ frz s Q) NoE s) h fun eo ei p h=>by
  refine zed (arm_assign_Subscript _ _ _ _ _) (wpAny_bind (wpAny_holding (((zU o).e Γ C X eo (zb h).1 _ _ w).then r fun co ov σ₁ s₁ a1 r1 t1 w1=>?_)))
  refine wpAny_bind (wpAny_holding (((zU i).e Γ C X ei (zb h).2 _ _ w1).then r1 fun ci iv σ₂ s₂ a2 r2 t2 w2=>?_))
  refine bc fun z9=>?_
  obtain⟨a,k,vs,j,rfl,rfl,hk,hm,hj,w⟩:=w2
  refine z9 ?_
  exact a1.eO (wpAny_bind (wpAny_standAt (wpAny_bind (wpAny_holding (zn (zwd X.ok r2 hm hk hj a2 (hv.tk (t1.trans t2))) fun _ s₃ h3=>zee ⟨_,h3.1,(t1.trans t2).trans h3.2,w⟩)))))
theorem E6 {α β γ δ ε ζ:Sort _}{p:α→β→γ→δ→ε→ζ→Prop}{R:Prop} (h: ∃a b c d e f,p a b c d e f) (k: ∀a b c d e f,p a b c d e f→R):R:=let ⟨a,b,c,d,e,f,q⟩:=h;k a b c d e f q
theorem z09 {a b:Addr}{ia ib:Option Int}{xs ys:List V}{cl ch:Value}{l hh:V}{Q:St→Prop}{post:Unit→Shared→Prop} (ok:Γ.ok) (ea:zf8 l=some ia) (eb:zf8 hh=some ib) (h:a≠b∧σ.mem a=some (.list xs)∧σ.mem b=some (.list ys)∧sma xs.length∧sma ys.length∧
  Q {σ with mem:=upd σ.mem a (.list (xs.take (zfp xs.length ia)++ys++xs.drop (max (zfp xs.length ia) (zh3 xs.length ib))))})
  (r:Rep G Γ frz σ s) (a2:RV s.heap cl l) (a3:RV s.heap ch hh) (k: ∀σ' s',Rep G Γ frz σ' s'→TK s.heap s'.heap→Q σ'→post () s'):
  wpAny (model G.prog G.w) A (setItem (.ref a) (.ref s.heap.objs.size) (.ref b)) post NoE {s with heap:=s.heap.push (ziw cl ch .none)}:=by
 have kk:=zax s.heap (ziw cl ch .none)
 refine bc fun z9=>?_
 obtain⟨_,_,_,qa⟩:=zbz ea a2
 refine z9 ?_
 refine bc fun z9=>?_
 obtain⟨_,_,_,qb⟩:=zbz eb a3
 refine z9 ?_
 exact zn (zrz ok (r.grow (tk:=s.toks) kk) h.2.1 h.2.2.1 h.1 h.2.2.2.1 h.2.2.2.2.1 (Heap.IsSliceOf.new ..) qa qb) fun _ s₅ h5=>k _ _ h5.1 ((TK.of kk).trans h5.2) h.2.2.2.2.2
theorem z5q {o lo hi:Ex}{e:Expr} (X:Cx G A P Γ C) (h:zjx C (.slc o lo hi) e=true) {v:V}{cv:Value}{Q:St→Prop} (w:zkp P (.slc o lo hi) v Q σ) (r:Rep G Γ frz σ s) (hv:RV s.heap cv v):
  wpAny (model G.prog G.w) A (assign e Γ.env cv) (PU G Γ frz s Q) NoE s:=
 zg9 (e:=e) (K:=fun v s=>zjn s fun l u k=>k.isNone&&(zo C o v&&(zny C lo l&&zny C hi u))) (M:=fun e=>wpAny (model G.prog G.w) A (assign e Γ.env cv) (PU G Γ frz s Q) NoE s) h fun eo es p h=>
 zmm (e:=es) (K:=fun l u k=>k.isNone&&(zo C o eo&&(zny C lo l&&zny C hi u))) (M:=fun es=>wpAny (model G.prog G.w) A (assign (.Subscript eo es p) Γ.env cv) (PU G Γ frz s Q) NoE s) h fun l u k p' h=>by
  obtain⟨h0,h⟩:=zb h
  obtain⟨h1,h⟩:=zb h
  obtain⟨h2,h3⟩:=zb h
  cases k with
  | some=>cases h0
  | none=>
  refine zed (arm_assign_Subscript _ _ _ _ _) (wpAny_bind (wpAny_holding (((zU o).e Γ C X eo h1 _ _ w).then r fun co ov σ₁ s₁ a1 r1 t1 w1=>?_)))
  refine wpAny_bind (wpAny_holding (zed (arm_eval_Slice _ _ _ _ _) ?_))
  refine wpAny_bind ((zmd X (zU lo).e l h2 w1).then r1 fun cl l σ₂ s₂ a2 r2 t2 w2=>wpAny_bind (wpAny_holding ((zmd X (zU hi).e u h3 w2).then r2 fun ch hh σ₃ s₃ a3 r3 t3 w3=>?_)))
  refine E6 w3 fun a b ia ib xs ys q=>?_
  refine(q.1▸a1).eO ((q.2.1▸hv).eO (wpAny_bind (wpAny_holding (wpAny_pure (wpAny_newObj_type ?_)))))
  exact wpAny_bind (wpAny_standAt (wpAny_bind (wpAny_holding (z09 X.ok q.2.2.1 q.2.2.2.1 q.2.2.2.2 r3 (a2.tk t3) a3 fun σ' s' r5 t5 w=>zee ⟨σ',r5,((t1.trans t2).trans t3).trans t5,w⟩))))
theorem z21 {o:Ex}{n:String}{e:Expr} (X:Cx G A P Γ C) (h:zjx C (.attr o n) e=true) {v:V}{cv:Value}{Q:St→Prop} (w:zkp P (.attr o n) v Q σ) (r:Rep G Γ frz σ s) (hv:RV s.heap cv v):
  wpAny (model G.prog G.w) A (assign e Γ.env cv) (PU G Γ frz s Q) NoE s:=
 zh4 (e:=e) (K:=fun v y _=>Str.ofString n==y&&zo C o v) (M:=fun e=>wpAny (model G.prog G.w) A (assign e Γ.env cv) (PU G Γ frz s Q) NoE s) h fun eo y p h=>by
  have h2:=(zb h).2
  cases beq_iff_eq.mp (zb h).1
  refine zed (arm_assign_Attribute _ _ _ _ _) (wpAny_bind (wpAny_holding (((zU o).e Γ C X eo h2 _ _ w).then r fun co ov σ₁ s₁ a1 r1 t1 w1=>?_)))
  refine bc fun z9=>?_
  obtain⟨a,d,fs,rfl,e1,e2,e3,e4,w⟩:=w1
  refine z9 ?_
  exact a1.eO (wpAny_bind (wpAny_standAt (wpAny_bind (wpAny_holding (zn (zu4 X.g X.p.ok X.ok r1 e1 e2 e4 e3 (hv.tk t1)) fun _ s₃ h3=>zee ⟨_,h3.1,t1.trans h3.2,w⟩)))))
theorem zk0 (X:Cx G A P Γ C) (t:Tg) (e:Expr) (h:zjx C t e=true) {v:V}{cv:Value}{Q:St→Prop} (w:zkp P t v Q σ)
  (r:Rep G Γ frz σ s) (hv:RV s.heap cv v):wpAny (model G.prog G.w) A (assign e Γ.env cv) (PU G Γ frz s Q) NoE s:=
 match t,h,w with
 | .var _,h,w=>zvb X.ok X.c h w r hv
 | .tup _,h,w=>zz0 X.a X.ok X.c h w r hv
 | .idx _ _,h,w=>z5c X h w r hv
 | .slc _ _ _,h,w=>z5q X h w r hv
 | .attr _ _,h,w=>z21 X h w r hv
theorem zgz {e:Expr}{es:List Expr}{env:Env} (h:zT e=true):assignEach (e::es) env=(false,assign e env)::assignEach es env:=by
 cases e<;>first | rfl | exact absurd h Bool.false_ne_true
theorem zi9 (X:Cx G A P Γ C): ∀(ts:List Tg) (es:List Expr),zb7 C ts es=true→∀{v:V}{cv:Value}{Q:St→Prop}{σ:St}{s:Shared},zh0 P ts v Q σ→
  Rep G Γ frz σ s→RV s.heap cv v→wpAny (model G.prog G.w) A (assignAll cv ((assignEach es Γ.env).map (·.2))) (PU G Γ frz s Q) NoE s
 | [],es,h,v,cv,Q,σ,s,w,r,hv=>by rw[zg8 h];exact wpAny_pure ⟨σ,r,.refl _,w⟩
 | [t],es,h,v,cv,Q,σ,s,w,r,hv=>by
  obtain⟨e,es,rfl,hp,h1,h2⟩:=zbv h
  cases zg8 h2
  rw[zgz hp]
  exact zk0 X t e h1 w r hv
 | t::t'::ts,es,h,v,cv,Q,σ,s,w,r,hv=>by
  obtain⟨e,es,rfl,hp,h1,h2⟩:=zbv h
  have ih:=fun {s₁:Shared} {σ₁:St} (w1:zh0 P (t'::ts) v Q σ₁) (r1:Rep G Γ frz σ₁ s₁) (hv1:RV s₁.heap cv v)=>zi9 X (t'::ts) es h2 w1 r1 hv1
  obtain⟨e',es',rfl,hp',_,_⟩:=zbv h2
  rw[zgz hp,zgz hp'] at *
  exact wpAny_bind (wpAny_holding (zn (zk0 X t e h1 w r hv) fun _ s₁ ⟨σ₁,r1,t1,w1⟩=>zn (ih w1 r1 (hv.tk t1)) fun _ s₂ p=>p.after t1))
theorem etu (t1 t2 t3:Expr) (t4:List Expr) (gs:List Comprehension) (t5:Scope) (p:Pos) (env:Env) (u:Value→Sem Unit):
  evalThenUse (.ListComp t1 (⟨t2,t3,t4,0⟩::gs) t5 p) env u=(comprehension (.ListComp t1 (⟨t2,t3,t4,0⟩::gs) t5 p) t5 env (firstIterPos (⟨t2,t3,t4,0⟩::gs) p) (newList []) false (eval t3 env) (some u) >>=fun _=>pure ()):=rfl
theorem zhr {WW:List V→(Mem→Prop)→(List V→St→Prop)→St→Prop}{gs:List Comprehension}{elt target iter:Expr}{ifs:List Expr}{sc:Scope}{p:Pos}{n:Nat}{caps:List Nat}{it:Ex} (X:Cx G A P Γ C) {ts:List Tg}{xs:List Expr}
  (h3:zb7 C ts xs=true) (hc:zgk C sc n caps=true) (hpl:zT iter=true) (hi:zo C it iter=true) (cr: ∀L,zji G A (zcf Γ sc L) (.ListComp elt (⟨target,iter,ifs,0⟩::gs) sc p) WW) {Q:Fl→St→Prop}
  (w:wpE P it (fun v σ₁=>yG σ₁.mem v fun vs g=>sma vs.length∧WW vs g (fun us σ'=> ∀a,σ'.mem a=none→zh0 P ts (.obj a) (fun σ₂=>Q .next σ₂) {σ₁ with mem:=upd σ'.mem a (.list us)}) (zeh σ₁ n caps)) σ):
  WF G A Γ (do evalThenUse (.ListComp elt (⟨target,iter,ifs,0⟩::gs) sc p) Γ.env fun v=>assignAll v ((assignEach xs Γ.env).map (·.2));pure Flow.next) Q σ:=fun frz s r=>by
 rw[etu]
 refine wpAny_bind ?_
 have core:=zly (pos:=p) (ipos:=firstIterPos (⟨target,iter,ifs,0⟩::gs) p) (use:=some fun v=>assignAll v ((assignEach xs Γ.env).map (·.2))) (QQ:=fun _ s'=>wpAny (model G.prog G.w) A (pure ()) (fun _ s''=>wpAny (model G.prog G.w) A (pure Flow.next) (PF G Γ frz s Q) NoE s'') NoE s')
  (R:=fun σ₁ us m=> ∀a,m a=none→zh0 P ts (.obj a) (fun σ₂=>Q .next σ₂) {σ₁ with mem:=upd m a (.list us)}) X.a X.ok X.c (zby hc) hpl cr r ((zU it).e Γ C X iter hi _ _ w)
 refine wpAny_bind (core fun σ₁ s' us m' D L mL hR hm r' t' d' ns=>?_)
 refine bc fun z9=>?_
 obtain⟨oL,es,ep,e,dL,hk,hf⟩:=id ns
 refine z9 ?_
 have ni: ¬Imm oL:=zer ns e
 show wpAny _ A (assignAll (.ref D) ((assignEach xs Γ.env).map (·.2))) _ NoE s'
 refine zn (zi9 X ts xs h3 (hR D hm) (r'.asideIn d' e) (.obj D)) fun _ s₂ ⟨σ₂,r2,tt2,w2⟩=>?_
 refine bc fun z9=>?_
 obtain⟨r3,d3,e3⟩:=Rep.asideOut r' d' r2
 refine z9 ?_
 refine⟨mL,⟨oL,es,ep,e3,dL,hk,hf⟩,fun h' hs'=>?_⟩
 obtain⟨r4,t4⟩:=r3.aside (tk:=s₂.toks) d3 e3 ni hs'.extBut
 exact wpAny_pure (wpAny_pure ⟨.next,σ₂,.next,r4,(t'.trans tt2).trans t4,w2⟩)
theorem zmy {xs:List Expr}{e t:Expr}{i:Expr}{ifs:List Expr}{gs:List Comprehension}{sc:Scope}{p:Pos}{l:Nat}{env:Env}: ∃b,swapsWithSole xs (.ListComp e (⟨t,i,ifs,0⟩::gs) sc p) l env=pure b:=by
 match xs with
 | []=>exact⟨false,rfl⟩
 | _::_::_=>exact⟨false,rfl⟩
 | [tg]=>cases tg<;>exact⟨_,rfl⟩
theorem zne {M:Ex→Prop}{e:Ex} (h:zea e=true) (k1: ∀a b c d f g n,M (.comp a b c d f g n)) (k2: ∀a b c d f g n m,M (.comp2 a b c d f g n m)):M e:=by
 cases e<;>first | exact k1 .. | exact k2 .. | exact absurd h Bool.false_ne_true
theorem z13 {e:Ex}{xs:List Expr}{y:Expr}{l:Nat}{env:Env} (h1:(zea e||notComp y)=true) (h4:zo C e y=true): ∃b,swapsWithSole xs y l env=pure b∧(b=true→zea e=true):=by
 cases q:zea e with
 | false=>
  rw[q,Bool.false_or] at h1
  exact⟨false,zr1 h1 _ _ _,fun q=>nomatch q⟩
 | true=>
  have: ∃b,swapsWithSole xs y l env=pure b:=zne (M:=fun e=>zo C e y=true→∃b,swapsWithSole xs y l env=pure b) q
   (fun _ _ _ _ _ _ _ h=>by cases zh8 h with | mk _ _ _ _ _ _ h=>subst h;exact zmy)
   (fun _ _ _ _ _ _ _ _ h=>by cases zft h with | mk _ _ _ _ _ _ _ h=>subst h;exact zmy) h4
  exact this.elim fun b hb=>⟨b,hb,fun _=>rfl⟩
theorem zvk (X:Cx G A P Γ C) {ts:List Tg}{e:Ex}{xs:List Expr}{y:Expr} (h1:zea e=true) (h3:zb7 C ts xs=true) (h4:zo C e y=true) {Q:Fl→St→Prop} (w:wpS P (.assign ts e) Q σ):
  WF G A Γ (do evalThenUse y Γ.env fun v=>assignAll v ((assignEach xs Γ.env).map (·.2));pure Flow.next) Q σ:=
 zne (M:=fun e=>zo C e y=true→wpS P (.assign ts e) Q σ→WF G A Γ (do evalThenUse y Γ.env fun v=>assignAll v ((assignEach xs Γ.env).map (·.2));pure Flow.next) Q σ) h1
  (fun _ _ _ _ _ _ _ h4 w=>by
   cases zh8 h4 with | mk _ _ _ _ _ _ h g1 g2 g3 g4 g5 g6=>
   subst h
   exact zhr X h3 g3 g1 g2 (zma X (zU _).e (zjl _) (zby g3) g4 g5 g6) w)
  (fun _ _ _ _ _ _ _ _ h4 w=>by
   cases zft h4 with | mk _ _ _ _ _ _ _ h g1 g2 g3 g4 g5 g6 g7 g8=>
   subst h
   exact zhr X h3 g4 g1 g3 (zj8 X (zU _).e (zU _).e (zby g4) g2 g5 g6 g7 g8) w) h4 w
theorem zsf {x x' y:Expr}{xs:List Expr}{env:Env}:swappedStores (x::x'::xs) y env=pure none:=by cases x<;>rfl
theorem zp8 {x y:Expr}{env:Env} (h:x.ctorIdx≠24∧(x.ctorIdx≠25∨y.ctorIdx≠25)):swappedStores [x] y env=pure none:=by
 cases x<;>first | rfl | exact absurd rfl h.1 | skip
 cases y<;>first | rfl | exact absurd rfl (h.2.resolve_left fun q=>q rfl)
theorem zuy (X:Cx G A P Γ C) {ts:List Tg}{es:List Expr}{k:Nat}{p:Pos}{f:Str→Pos→Bool}{v:V}{cv:Value}{Q:Fl→St→Prop} (h3:zb7 C ts [.Tuple es k p]=true) (hlen:(es.filterMap (yS f)).length=es.length) (h23:es.length=2∨es.length=3)
  (w:zh0 P ts v (fun σ₂=>Q .next σ₂) σ) (r:Rep G Γ frz σ s) (hv:RV s.heap cv v):
  wpAny (model G.prog G.w) A (assignStores Γ.env cv (some (es.filterMap (yS f))) ((assignEach [.Tuple es k p] Γ.env).map (·.2))) (PF G Γ frz s Q) NoE s:=by
 obtain⟨t,ts,rfl⟩: ∃t ts',ts=t::ts':=by
  cases ts with
  | nil=>cases zg8 h3
  | cons t ts=>exact⟨_,_,rfl⟩
 refine bc fun z9=>?_
 obtain⟨_,_,eq,_,ht,hts⟩:=zbv h3
 refine z9 ?_
 cases eq
 cases ts with
 | cons t' ts=>obtain⟨_,_,eq,_⟩:=zbv hts;cases eq
 | nil=>
 cases t<;>first | exact absurd ht Bool.false_ne_true | skip
 rename_i is
 obtain⟨ht1,ht2⟩:=zb (show(zgb is&&zgx C is es)=true from ht)
 refine bc fun z9=>?_
 obtain⟨vals,rfl,hl,w2⟩:=zu3 w
 refine z9 ?_
 have bs:=zpp (A:=A) X.ok X.c f ht2 hlen
 have hbl:=bs.length
 rw[List.length_map] at hbl
 have bs':=bs.reverse
 rw[←List.map_reverse] at bs'
 show wpAny _ _ (do rule "assign.swapped-stores";let items ←unpackItems cv (es.filterMap (yS f)).length none;assignInOrder ((es.filterMap (yS f)).reverse.map fun n=>bindName Γ.env n) items.reverse;pure Flow.next) _ _ s
 refine wpAny_bind (wpAny_rule (wpAny_bind (zpo X.a r hv (hl.trans hbl.symm) fun cvs s₂ rs r2 t2=>wpAny_bind ?_)))
 refine zqt bs' r2 rs.reverse (by rw[List.length_reverse,List.length_reverse];exact hl.symm) fun s' r' t'=>wpAny_pure ⟨.next,_,.next,r',t2.trans t',?_⟩
 rw[zrq ht1 hl.symm (by rw[←hbl,hlen];exact h23)]
 exact w2
theorem zzb (X:Cx G A P Γ C) {ts:List Tg}{xs:List Expr}{y:Expr}{v:V}{cv:Value}{Q:Fl→St→Prop} (h2:zpn xs y=true) (h3:zb7 C ts xs=true)
  (w:zh0 P ts v (fun σ₂=>Q .next σ₂) σ) (r:Rep G Γ frz σ s) (hv:RV s.heap cv v):
  wpAny (model G.prog G.w) A (do assignStores Γ.env cv (←swappedStores xs y Γ.env) ((assignEach xs Γ.env).map (·.2))) (PF G Γ frz s Q) NoE s:=by
 have plain:wpAny (model G.prog G.w) A (assignStores Γ.env cv none ((assignEach xs Γ.env).map (·.2))) (PF G Γ frz s Q) NoE s:=
  wpAny_bind (zn (zi9 X ts xs h3 w r hv) fun _ s₂ ⟨σ₂,r2,t2,w2⟩=>wpAny_pure ⟨.next,σ₂,.next,r2,t2,w2⟩)
 have go:swappedStores xs y Γ.env=pure none→wpAny (model G.prog G.w) A (do assignStores Γ.env cv (←swappedStores xs y Γ.env) ((assignEach xs Γ.env).map (·.2))) (PF G Γ frz s Q) NoE s:=fun e=>by
  rw[e];exact wpAny_bind (wpAny_pure plain)
 cases xs with
 | nil=>cases h2
 | cons x xs=>
 cases xs with
 | cons x' xs=>exact go zsf
 | nil=>
 obtain⟨h24,h2⟩:=zb h2
 by_cases hx:x.ctorIdx=25
 ·by_cases hy:y.ctorIdx=25
  ·rw[hx,hy] at h2
   refine zlo (e:=y) (K:=fun vs=>!vs.all (constantsAlone 8)||vs.all (foldedForSure 8)) (M:=fun y=>(swappedStores [x] y Γ.env=pure none→wpAny (model G.prog G.w) A (do assignStores Γ.env cv (←swappedStores [x] y Γ.env) ((assignEach [x] Γ.env).map (·.2))) (PF G Γ frz s Q) NoE s)→wpAny (model G.prog G.w) A (do assignStores Γ.env cv (←swappedStores [x] y Γ.env) ((assignEach [x] Γ.env).map (·.2))) (PF G Γ frz s Q) NoE s) h2 ?_ go
   intro vs k' p' h2 go
   revert h3 go
   refine Expr.Tuple.elim (motive_1:=fun x=>zb7 C ts [x]=true→(swappedStores [x] (.Tuple vs k' p') Γ.env=pure none→wpAny (model G.prog G.w) A (do assignStores Γ.env cv (←swappedStores [x] (.Tuple vs k' p') Γ.env) ((assignEach [x] Γ.env).map (·.2))) (PF G Γ frz s Q) NoE s)→wpAny (model G.prog G.w) A (do assignStores Γ.env cv (←swappedStores [x] (.Tuple vs k' p') Γ.env) ((assignEach [x] Γ.env).map (·.2))) (PF G Γ frz s Q) NoE s) x hx ?_
   intro es k p h3 go
   rcases zsh (ts:=es) (vs:=vs) (k:=k) (k':=k') (p:=p) (p':=p') (env:=Γ.env) h2 with q | ⟨f,q,hlen,h23⟩
   ·exact go q
   ·rw[q];exact wpAny_bind (wpAny_pure (zuy X h3 hlen h23 w r hv))
  ·exact go (zp8 ⟨bne_iff_ne.mp h24,.inr hy⟩)
 ·exact go (zp8 ⟨bne_iff_ne.mp h24,.inl hx⟩)
theorem zyf (X:Cx G A P Γ C) {ts:List Tg}{e:Ex}{xs:List Expr}{y:Expr}{pos:Pos} (h1:(zea e||notComp y)=true) (h2:zpn xs y=true) (h3:zb7 C ts xs=true) (h4:zo C e y=true)
  {Q:Fl→St→Prop} (w:wpS P (.assign ts e) Q σ):WF G A Γ (exec (.Assign xs y pos) Γ.env) Q σ:=fun frz s r=>by
 obtain⟨b,hbe,hbt⟩:=z13 (xs:=xs) (l:=pos.line) (env:=Γ.env) h1 h4
 refine zed (PyProof.Rows.exec_Assign _ _ _) (wpAny_bind (wpAny_standAt ?_))
 rw[hbe]
 refine wpAny_bind (wpAny_pure ?_)
 cases b with
 | true=>
  exact zvk X (hbt rfl) h3 h4 w frz s r
 | false=>
  exact wpAny_bind (((zU e).e Γ C X y h4 _ _ w).then r fun cv v σ₁ s₁ a1 r1 t1 w1=>zn (zzb X h2 h3 w1 r1 a1) fun _ _ h=>h.after t1)
end
section
variable {G:GS}{A:Around}{Γ:FE}{frz:Frz}{σ:St}{s:Shared}
theorem WF.then {t:Sem Flow}{Q:Fl→St→Prop}{post:Flow→Shared→Prop}{E:Value→Shared→Prop} (h:WF G A Γ t Q σ) (r:Rep G Γ frz σ s)
  (k: ∀cv v σ₁ s₁,RF s₁.heap cv v→Rep G Γ frz σ₁ s₁→TK s.heap s₁.heap→Q v σ₁→post cv s₁):wpAny (model G.prog G.w) A t post E s:=
 wpAny_mono (h frz s r) (fun cv s₁ ⟨v,σ₁,a,b,c,d⟩=>k cv v σ₁ s₁ a b c d) fun _ _ x=>x.elim
theorem z71 {op:Operator}{v u:V}{cv cu:Value}{Q:V→Prop} (h:zr0 σ.mem op v u Q) (r:Rep G Γ frz σ s) (hv:RV s.heap cv v) (hu:RV s.heap cu u) {post:Value→Shared→Prop}
  (k: ∀cr r s',RV s'.heap cr r→Rep G Γ frz σ s'→TK s.heap s'.heap→Q r→post cr s'):wpAny (model G.prog G.w) A (inplaceOp op cv cu) post NoE s:=by
 cases op<;>first | exact False.elim h | skip
 ·cases v<;>first | exact False.elim h | skip
  ·obtain⟨b,rfl,h⟩:=zb0 h
   exact hv.eI fun _=>hu.eI fun _=>PyProof.Rows.iadd_int (k _ _ _ (.int _ _) (r.toks _) (.refl _) h)
  ·obtain⟨b,rfl,h1,h2,h3⟩:=zab h
   exact hv.eS fun _=>hu.eS fun _=>PyProof.Rows.iadd_str (fun t' tk=>by rw[zew];exact k _ _ _ (.str _ _) (r.toks _) (.refl _) h3) (by rw[mkl,mkl,sizeLine_eq];exact ntr (Nat.add_le_add h1 h2) (by decide))
 ·exact zhx (M:=fun cv cu=>wpAny (model G.prog G.w) A (inplaceOp .Sub cv cu) post NoE s) h hv hu fun _ _ _ _ h=>PyProof.Rows.isub_int (k _ _ _ (.int _ _) (r.toks _) (.refl _) h)
theorem z5g {i:Nat}{x:Str}{k:VK}{v:V}{post:Value→Shared→Prop} (ok:Γ.ok) (r:Rep G Γ frz σ s) (hx:Γ.vars[i]? =some (x,k)) (hv:σ.loc[i]? =some (some v)) (q: ∀cv,RV s.heap cv v→post cv s):
  wpAny (model G.prog G.w) A (loadName Γ.env x) post NoE s:=by
 cases k with
 | loc=>
  obtain⟨m,n,f⟩:=r.hns
  obtain⟨cv,e,rv⟩:=f i x v hx hv
  exact wpAny_loadName_local ok.fn (ok.loc i x hx) n e (q _ rv)
 | own c=>
  obtain⟨_,_,o,ov,g,d,f⟩:=r.hown i x c hx
  obtain⟨cv,e,rv⟩:=f v hv
  subst e
  obtain⟨a1,a2,_⟩:=ok.own i x c hx
  exact wpAny_loadName_cell ok.fn a1 a2 ⟨_,g,d⟩ (q _ rv)
 | ref c=>
  obtain⟨o,ov,g,d,f⟩:=r.href i x c hx
  obtain⟨cv,e,rv⟩:=f v hv
  subst e
  have g':=r.hfrz _ _ g
  obtain⟨a1,a2⟩:=ok.ref i x c hx
  rcases a1 with a1 | a1
  ·exact wpAny_loadName_cell ok.fn a1 a2 ⟨_,g',d⟩ (q _ rv)
  ·exact wpAny_loadName_free ok.fn a1 a2 ⟨_,g',d⟩ (q _ rv) (ok.dbg i x _ hx).2
noncomputable def SS (G:GS) (A:Around) (P:PC) (x:Sm):Prop:= ∀(Γ:FE) (C:SC),Cx G A P Γ C→∀(e:Stmt),z8l C x e=true→∀(Q:Fl→St→Prop) (σ:St),wpS P x Q σ→WF G A Γ (exec e Γ.env) Q σ
noncomputable def SB (G:GS) (A:Around) (P:PC) (xs:List Sm):Prop:= ∀(Γ:FE) (C:SC),Cx G A P Γ C→∀(es:List Stmt),zc6 C xs es=true→∀(Q:Fl→St→Prop) (σ:St),zs P xs Q σ→WF G A Γ (execs es Γ.env) Q σ
variable {P:PC}
theorem ztw {y:Ex}:SS G A P (.expr y):=fun Γ C X e h Q σ w=>zva (x:=e) (K:=fun e=>notComp e&&zo C y e) (M:=fun e=>WF G A Γ (exec e Γ.env) Q σ) h fun e p h frz s r=>
 wpAny_Expr_any (((zU y).e Γ C X e (zb h).2 _ _ w).then r fun cv v σ₁ s₁ a1 r1 t1 w1=>⟨.next,σ₁,.next,r1,t1,w1⟩) (by unfold interactive;rw[X.ok.fn];rfl) (zka (zb h).1 _ _ _)
theorem zm1 {ts:List Tg}{y:Ex}:SS G A P (.assign ts y):=fun Γ C X e h Q σ w=>zsb (x:=e) (K:=fun xs e=>(zea y||notComp e)&&(zpn xs e&&(zb7 C ts xs&&zo C y e))) (M:=fun e=>WF G A Γ (exec e Γ.env) Q σ) h fun xs e p h=>
 zyf X (zb h).1 (zb (zb h).2).1 (zb (zb (zb h).2).2).1 (zb (zb (zb h).2).2).2 w
theorem z0i {i:Nat}{op:Operator}{y:Ex}:SS G A P (.aug i op y):=fun Γ C X e h Q σ w=>z1e (x:=e) (K:=fun t o e=>zc3 t fun n=>C.isW i n&&(op==o&&zo C y e)) (M:=fun e=>WF G A Γ (exec e Γ.env) Q σ) h fun t o e p h=>
 zez (e:=t) (K:=fun n=>C.isW i n&&(op==o&&zo C y e)) (M:=fun t=>WF G A Γ (exec (.AugAssign t o e p) Γ.env) Q σ) h fun n q h frz s r=>by
  obtain⟨h1,h⟩:=zb h
  obtain⟨h2,h3⟩:=zb h
  cases beq_iff_eq.mp h2
  obtain⟨v,hv,w⟩:=zof w
  obtain⟨k,hx,hk⟩:=zts X.c h1
  refine wpAny_AugAssign_Name (z5g X.ok r hx hv fun cv rv=>((zU y).e Γ C X e h3 _ _ w).then r fun cu u σ₁ s₁ a1 r1 t1 w1=>z71 w1 r1 (rv.tk t1) a1 fun cr q s' rq r2 t2 w2=>?_)
  exact zn (zo8 X.ok r2 hx hk rq) fun _ s₃ h3=>⟨.next,_,.next,h3.1,(t1.trans t2).trans h3.2,w2⟩
theorem z3f {a:Addr}{k:Int}{t:Tok}{vs:List V}{j:Nat}{post:Unit→Shared→Prop} (ok:Γ.ok) (r:Rep G Γ frz σ s) (hk:tiny k) (hm:σ.mem a=some (.list vs)) (hj:zpz vs.length k=some j) (hz:sma vs.length)
  (q: ∀s',Rep G Γ frz {σ with mem:=upd σ.mem a (.list (vs.eraseIdx j))} s'→TK s.heap s'.heap→post () s'):wpAny (model G.prog G.w) A (delItem (.ref a) (.int k t)) post NoE s:=by
 refine bc fun z9=>?_
 obtain⟨arr,n,g,rs,hzz⟩:=(r.hmem _ _ hm).l
 refine z9 ?_
 refine PySem.P.delItem_list (n:=n) g (zid hk) (by rw[hzz];exact hj) ?_ (by rw[hzz];exact zbn hz)
 obtain⟨q1,q2⟩:=r.change ok (tk:=s.toks) (o:= .list (vs.eraseIdx j)) hm (h':=s.heap.update _ (Obj.mapSeq fun xs=>xs.eraseIdxIfInBounds j)) (fun b o hb e=>(Heap.get?_update_other _ _ (Ne.symm hb)).trans e)
  (fun k=> .list (Heap.get?_update_self _ g rfl) (by
   show RVs _ (arr.eraseIdxIfInBounds j).toList _
   rw[Array.toList_eraseIdxIfInBounds,List.eraseIdx_eq_take_drop_succ,List.eraseIdx_eq_take_drop_succ]
   exact((rs.tk k).take _).append ((rs.tk k).drop _)))
 exact q _ q1 q2
theorem zzv {o i:Ex}:SS G A P (.del o i):=fun Γ C X e h Q σ w=>z24 (x:=e) (K:=fun xs=>z8j xs fun y=>zms y fun v s=>zo C o v&&zo C i s) (M:=fun e=>WF G A Γ (exec e Γ.env) Q σ) h fun xs p h=>by
 refine bc fun z9=>?_
 obtain⟨y,rfl,h⟩:=zyt h
 refine z9 ?_
 refine zg9 (e:=y) (K:=fun v s=>zo C o v&&zo C i s) (M:=fun y=>WF G A Γ (exec (.Delete [y] p) Γ.env) Q σ) h fun eo ei p' h frz s r=>?_
 refine wpAny_Delete (wpAny_deleteEach_cons (wpAny_delete_Subscript (((zU o).e Γ C X eo (zb h).1 _ _ w).then r fun co ov σ₁ s₁ a1 r1 t1 w1=>((zU i).e Γ C X ei (zb h).2 _ _ w1).then r1 fun ci iv σ₂ s₂ a2 r2 t2 w2=>?_)))
 refine bc fun z9=>?_
 obtain⟨a,k,vs,j,rfl,rfl,hk,hm,hj,hz,w⟩:=w2
 refine z9 ?_
 exact a1.eO (a2.eI fun _=>z3f X.ok r2 hk hm hj hz fun s' q1 q2=>wpAny_deleteEach_nil ⟨.next,_,.next,q1,(t1.trans t2).trans q2,w⟩)
theorem zzg {c:Ex}{a b:List Sm} (ia:SB G A P a) (ib:SB G A P b):SS G A P (.ife c a b):=fun Γ C X e h Q σ w=>z26 (x:=e) (K:=fun t y z=>zo C c t&&(zc6 C a y&&zc6 C b z)) (M:=fun e=>WF G A Γ (exec e Γ.env) Q σ) h fun t y z p h frz s r=>
 zed (arm_exec_If _ _ _ _ _) (wpAny_bind (wpAny_standAt (wpAny_bind (((zU c).t Γ C X t (zb h).1 _ _ w).then r fun t σ₁ s₁ r1 t1 w1=>by
  cases t with
  | true=>exact zn (ia Γ C X y (zb (zb h).2).1 _ _ w1 frz s₁ r1) fun f s₂ p=>p.after t1
  | false=>exact zn (ib Γ C X z (zb (zb h).2).2 _ _ w1 frz s₁ r1) fun f s₂ p=>p.after t1))))
theorem z0n {c:Ex}{b:List Sm} (ib:SB G A P b):SS G A P (.whl c b):=fun Γ C X e h Q σ w=>zu5 (x:=e) (K:=fun t y z=>z.isEmpty&&(zo C c t&&zc6 C b y)) (M:=fun e=>WF G A Γ (exec e Γ.env) Q σ) h fun t y z p h frz s r=>by
 obtain⟨h0,h⟩:=zb h
 obtain⟨hc,hb⟩:=zb h
 cases List.isEmpty_iff.mp h0
 obtain⟨I,⟨n,hI⟩,turn⟩:=w
 refine wpAny_While (codeAny_whileLoop (fun n s'=> ∃σ',Rep G Γ frz σ' s'∧TK s.heap s'.heap∧I n σ') ?_ n ⟨σ,r,.refl _,hI⟩)
 intro n s₁ ⟨σ₁,r1,t1,i1⟩
 refine wpAny_mono ((zU c).t Γ C X t hc _ _ (turn n σ₁ i1) frz s₁ r1) (fun t s₂ p=>?_) fun _ _ x=>x.elim
 obtain⟨σ₂,r2,t2,w2⟩:=p
 cases t with
 | true=>
  rw[if_pos rfl] at w2 ⊢
  refine(ib Γ C X y hb _ _ w2).then r2 fun cf f σ₃ s₃ a3 r3 t3 w3=>?_
  have tt:=(t1.trans t2).trans t3
  cases a3 with
  | next=>obtain⟨m,hm,hi⟩:=w3;exact⟨m,hm,σ₃,r3,tt,hi⟩
  | cont=>obtain⟨m,hm,hi⟩:=w3;exact⟨m,hm,σ₃,r3,tt,hi⟩
  | brk=>exact⟨.next,σ₃,.next,r3,tt,w3⟩
  | ret q=>exact⟨.ret _,σ₃,.ret q,r3,tt,w3⟩
 | false=>
  rw[if_neg Bool.false_ne_true] at w2 ⊢
  rw[arm_execs_nil]
  exact wpAny_pure ⟨.next,σ₂,.next,r2,t1.trans t2,w2⟩
noncomputable def z81 (G:GS) (P:PC) (Γ:FE) (frz:Frz) (s:Shared) (ia:Addr) (t:Tg) (b:List Sm) (g:Mem→Prop) (Q:Fl→St→Prop) (n:Nat) (s':Shared):Prop:=
 ∃σ' vs' o,vs'.length=n∧Rep G Γ frz σ' s'∧TK s.heap s'.heap∧Aside G Γ frz σ' ia∧s'.heap.get? ia=some o∧IterAt s'.heap o g vs'∧zem (zkp P t) (zs P b) g Q vs' σ'
theorem zyx {Γ:FE}{C:SC}{frz:Frz}{t:Tg}{b:List Sm}{tg:Expr}{y:List Stmt}{g:Mem→Prop}{Q:Fl→St→Prop}{s₀ s:Shared}{ia:Addr}{o:Obj}{vs:List V}{v:V}{cv:Value} (X:Cx G A P Γ C) (ib:SB G A P b) (htg:zjx C t tg=true) (hb:zc6 C b y=true)
  {E:Value→Shared→Prop} {R:Flow→Shared→Prop}
  (r:Rep G Γ frz σ s) (t0:TK s₀.heap s.heap) (d:Aside G Γ frz σ ia) (ho:s.heap.get? ia=some o) (i:IterAt s.heap o g vs) (hv:RV s.heap cv v)
  (w:zkp P t v (fun σ=>zs P b (fun fl σ₁=>match fl with
   | .next=>zem (zkp P t) (zs P b) g Q vs σ₁
   | .cont=>zem (zkp P t) (zs P b) g Q vs σ₁
   | .brk=>Q .next σ₁
   | .ret r=>Q (.ret r) σ₁) σ) σ)
  (k: ∀f s',(f= .next∨f= .cont)→z81 G P Γ frz s₀ ia t b g Q vs.length s'→R f s') (kb: ∀s',PF G Γ frz s₀ Q .next s'→R .brk s') (kr: ∀v s',PF G Γ frz s₀ Q (.ret v) s'→R (.ret v) s'):
  wpAny (model G.prog G.w) A (assign tg Γ.env cv) (fun _ s'=>wpAny (model G.prog G.w) A (execs y Γ.env) R E s') NoE s:=by
 refine zn (zk0 X t tg htg w (r.asideIn d ho) hv) fun _ s₅ p=>?_
 obtain⟨σ₅,r5,t5,w5⟩:=p
 refine(ib Γ C X y hb _ _ w5).then r5 fun cf f σ₆ s₆ a6 r6 t6 w6=>?_
 obtain⟨r6',d6,ho6⟩:=Rep.asideOut r d r6
 have tt:=(t0.trans t5).trans t6
 have i6:=i.tk (t5.trans t6)
 cases a6 with
 | next=>exact k _ _ (.inl rfl) ⟨σ₆,vs,o,rfl,r6',tt,d6,ho6,i6,w6⟩
 | cont=>exact k _ _ (.inr rfl) ⟨σ₆,vs,o,rfl,r6',tt,d6,ho6,i6,w6⟩
 | brk=>exact kb _ ⟨.next,σ₆,.next,r6',tt,w6⟩
 | ret q=>exact kr _ _ ⟨.ret _,σ₆,.ret q,r6',tt,w6⟩
theorem z5o {t:Tg}{it:Ex}{b:List Sm} (ib:SB G A P b):SS G A P (.fr t it b):=fun Γ C X e h Q σ w=>z2m (x:=e) (K:=fun tg e y z=>z.isEmpty&&(zT e&&(zjx C t tg&&(zo C it e&&zc6 C b y)))) (M:=fun e=>WF G A Γ (exec e Γ.env) Q σ) h fun tg e y z p h frz s r=>by
 obtain⟨h0,h⟩:=zb h
 obtain⟨hpl,h⟩:=zb h
 obtain⟨htg,h⟩:=zb h
 obtain⟨hit,hb⟩:=zb h
 cases List.isEmpty_iff.mp h0
 refine wpAny_For (((zU it).e Γ C X e hit _ _ w).then r fun cv v σ₁ s₁ a1 r1 t1 w1=>?_) fun x=>zd9 hpl x
 refine bc fun z9=>?_
 obtain⟨vs,g,w1,mk⟩:=zjo (A:=A) r1 a1 w1
 refine z9 ?_
 refine zn mk fun itv s₂ p=>?_
 refine bc fun z9=>?_
 obtain⟨ia,o,rfl,r2,t2,d2,ho2,i2⟩:=p
 refine z9 ?_
 refine codeAny_forLoop_any (z81 G P Γ frz s ia t b g Q) ?_ _ ⟨σ₁,vs,o,rfl,r2,t1.trans t2,d2,ho2,i2,w1⟩
 intro n s₃ h3
 refine bc fun z9=>?_
 obtain⟨σ₃,vs',o',hl,r3,t3,d3,ho3,i3,w3⟩:=h3
 refine z9 ?_
 cases vs' with
 | nil=>
  refine wpAny_mono (zjk X.a r3 d3 ho3 i3 w3.1) (fun x s₄ p=>?_) fun _ _ x=>x.elim
  cases x with
  | some _=>exact False.elim p
  | none=>exact zed (arm_execs_nil _) (wpAny_pure ⟨.next,σ₃,.next,p.1,t3.trans p.2,w3.2⟩)
 | cons v' vs'=>
  refine wpAny_mono (zjk X.a r3 d3 ho3 i3 w3.1) (fun x s₄ p=>?_) fun _ _ x=>x.elim
  cases x with
  | none=>exact False.elim p
  | some cv'=>
   refine bc fun z9=>?_
   obtain⟨a4,r4,t4,o4,ho4,i4⟩:=p
   refine z9 ?_
   show wpAny _ _ (letOwnedTupleGo tg (Value.ref ia) cv') _ _ s₄
   refine zj3 ho4 i4 ?_
   refine wpAny_mono (zyx X ib htg hb r4 (t3.trans t4) d3 ho4 i4 a4 w3.2 ?_ ?_ ?_) (fun _ _ x=>x) fun _ _ x=>x.elim
   ·intro f s' hf h
    rcases hf with rfl | rfl
    ·exact⟨_,by rw[←hl];exact Nat.lt_succ_self _,h⟩
    ·exact⟨_,by rw[←hl];exact Nat.lt_succ_self _,h⟩
   ·exact fun _ h=>h
   ·exact fun _ _ h=>h
theorem zz9 {y:Ex}:SS G A P (.ret y):=fun Γ C X e h Q σ w=>z2j (x:=e) (K:=fun e=>zny C y e) (M:=fun e=>WF G A Γ (exec e Γ.env) Q σ) h fun e p h frz s r=>by
 cases e with
 | none=>
  obtain⟨v,σ',a,b,c,d⟩:=zjp h w r
  exact wpAny_Return_none ⟨.ret v,σ',.ret a,b,c,d⟩
 | some e=>exact wpAny_Return_some (((zU y).e Γ C X e h _ _ w).then r fun cv v σ₁ s₁ a1 r1 t1 w1=>⟨.ret v,σ₁,.ret a1,r1,t1,w1⟩)
theorem z0m:SS G A P .brk:=fun Γ C X e h Q σ w=>z3l (x:=e) (K:=fun _=>true) (M:=fun e=>WF G A Γ (exec e Γ.env) Q σ) h fun p _ frz s r=>
 zed (arm_exec_Break _ _) (wpAny_bind (wpAny_standAt (wpAny_pure ⟨.brk,σ,.brk,r,.refl _,w⟩)))
theorem zz5:SB G A P []:=fun Γ C X es h Q σ w frz s r=>by
 cases zm3 h
 exact zed (arm_execs_nil _) (wpAny_pure ⟨.next,σ,.next,r,.refl _,w⟩)
theorem ztr {x:Sm}{xs:List Sm} (ix:SS G A P x) (is:SB G A P xs):SB G A P (x::xs):=fun Γ C X es h Q σ w frz s r=>by
 rcases zkf h with rfl | ⟨e,es,rfl,h1,h2⟩
 ·exact False.elim w
 refine zed (arm_execs_cons _ _ _) (wpAny_bind ((ix Γ C X e h1 _ _ w).then r fun cf f σ₁ s₁ a1 r1 t1 w1=>?_))
 cases a1 with
 | next=>exact zn (is Γ C X es h2 _ _ w1 frz s₁ r1) fun f s₂ p=>p.after t1
 | brk=>exact wpAny_pure ⟨_,σ₁,.brk,r1,t1,w1⟩
 | cont=>exact wpAny_pure ⟨_,σ₁,.cont,r1,t1,w1⟩
 | ret q=>exact wpAny_pure ⟨_,σ₁,.ret q,r1,t1,w1⟩
theorem zwh:(xs:List Sm)→SB G A P xs:=Sm.rec_1 (motive_1:=SS G A P) (motive_2:=SB G A P)
 (fun _=>ztw) (fun _ _=>zm1) (fun _ _ _=>z0i) (fun _ _=>zzv) (fun _ _ _ ia ib=>zzg ia ib) (fun _ _ ib=>z0n ib) (fun _ _ _ ib=>z5o ib) (fun _=>zz9) z0m
 (fun _ _ _ _ h=>absurd h Bool.false_ne_true) zz5 (fun _ _ ix is=>ztr ix is)
end
noncomputable def retV:Fl→V
 | .ret v=>v
 | _=> .none
theorem ziv {k:Str→Option NameKind}: ∀{ps:List Str}{cs:List Value}{m:Str→Option Value}{x:Str},x∉ps→bindL k (ps.zip cs) m x=m x
 | [],_,_,_,_=>by dsimp [bindL]
 | _::_,[],_,_,_=>by rfl
 | p::ps,c::cs,m,x,h=>by
  simp only[List.zip_cons_cons];unfold bindL
  rw[ziv (fun q=>h (List.mem_cons_of_mem _ q))]
  split
  ·exact if_neg (fun q=>h (by subst q;simp))
  ·rfl
theorem zin {k:Str→Option NameKind}: ∀{ps:List Str}{cs:List Value}{m:Str→Option Value}{i:Nat}{x:Str}{c:Value},ps.Nodup→ps[i]? =some x→cs[i]? =some c→k x=some .local→bindL k (ps.zip cs) m x=some c
 | [],_,_,_,_,_,_,h,_,_=>by trivial
 | _::_,[],_,_,_,_,_,_,h,_=>by trivial
 | p::ps,d::cs,m,0,x,c,hn,h1,h2,hk=>by
  simp only[List.getElem?_cons_zero,Option.some.injEq] at h1 h2
  subst h1;subst h2
  rw[List.nodup_cons] at hn
  simp only[List.zip_cons_cons];unfold bindL
  rw[ziv hn.1,if_pos hk,if_pos rfl]
 | p::ps,d::cs,m,i+1,x,c,hn,h1,h2,hk=>by
  rw[List.nodup_cons] at hn
  simp only[List.zip_cons_cons];unfold bindL
  exact zin hn.2 (by simpa using h1) (by simpa using h2) hk
theorem zja {k:Str→Option NameKind}: ∀{ps:List Str}{cs:List Value}{m:Str→Option Value}{x:Str},x∉ps→bindC k (ps.zip cs) m x=m x
 | [],_,_,_,_=>by dsimp [bindC]
 | _::_,[],_,_,_=>by rfl
 | p::ps,c::cs,m,x,h=>by
  simp only[List.zip_cons_cons];unfold bindC
  rw[zja (fun q=>h (List.mem_cons_of_mem _ q))]
  split
  ·rfl
  ·exact if_neg (fun q=>h (by subst q;simp))
theorem zi1 {k:Str→Option NameKind}: ∀{ps:List Str}{cs:List Value}{m:Str→Option Value}{i:Nat}{x:Str}{c:Value},ps.Nodup→ps[i]? =some x→cs[i]? =some c→¬k x=some .local→bindC k (ps.zip cs) m x=some c
 | [],_,_,_,_,_,_,h,_,_=>by trivial
 | _::_,[],_,_,_,_,_,_,h,_=>by trivial
 | p::ps,d::cs,m,0,x,c,hn,h1,h2,hk=>by
  simp only[List.getElem?_cons_zero,Option.some.injEq] at h1 h2
  subst h1;subst h2
  rw[List.nodup_cons] at hn
  simp only[List.zip_cons_cons];unfold bindC
  rw[zja hn.1,if_neg hk,if_pos rfl]
 | p::ps,d::cs,m,i+1,x,c,hn,h1,h2,hk=>by
  rw[List.nodup_cons] at hn
  simp only[List.zip_cons_cons];unfold bindC
  exact zi1 hn.2 (by simpa using h1) (by simpa using h2) hk
theorem zn4 {α:Type}{M:Model}{A:Around}{E:Value→Shared→Prop}{s:Shared}{c:Prop} [Decidable c] {x y:Sem α}{Q:α→Shared→Prop} (h: ¬c) (k:wpAny M A y Q E s):wpAny M A (if c then x else y) Q E s:=by rw[if_neg h];exact k
noncomputable def zrp (p:Arguments) (ps:List Str):Bool:=
 p.posonlyargs.isEmpty&&(p.vararg.isNone&&(p.kwonlyargs.isEmpty&&(p.kwarg.isNone&&p.args.map Arg.arg==ps)))
noncomputable def z69 (h:Heap) (v:Value) (ds:List Value):Prop:=(v= .none∧ds=[])∨∃T o arr n,v= .ref T∧h.get? T=some o∧o.data= .seq arr n∧arr.toList=ds
theorem z5e {M:Model}{A:Around}{E:Value→Shared→Prop}{s:Shared}{v:Value}{ds:List Value}{Q:Option (Array Value)→Shared→Prop} (h:z69 s.heap v ds) (q: ∀d:Option (Array Value),(d.getD #[]).toList=ds→Q d s):wpAny M A (seqItems? v) Q E s:=by
 rcases h with ⟨rfl,rfl⟩ | ⟨T,o,arr,n,rfl,h1,h2,h3⟩
 ·exact wpAny_bind (wpAny_of_eq (a:=()) rfl (wpAny_pure (q none rfl)))
 ·exact wpAny_seqItems h1 h2 (q _ h3)
noncomputable def z1o (s l:List (Str×Value)):List (Str×Value):=l.foldl (fun s x=>if (s.lookup x.1).isNone=true then s++[(x.1,x.2)] else s) s
theorem zg4 {x:Str}: ∀(s l:List (Str×Value)),(s++l).lookup x=(s.lookup x).or (l.lookup x)
 | [],_=>rfl
 | (y,v)::s,l=>by
  (dsimp only[List.cons_append,List.lookup_cons,List.lookup_cons];rw[zg4 s l])
  cases x==y<;>rfl
theorem zl8 {x:Str}: ∀(l s:List (Str×Value)),(z1o s l).lookup x=(s.lookup x).or (l.lookup x)
 | [],s=>(Option.or_none).symm
 | (y,v)::l,s=>by
  show(z1o (if (s.lookup y).isNone=true then s++[(y,v)] else s) l).lookup x=_
  rw[zl8 l,List.lookup_cons]
  by_cases q:x=y
  ·subst q
   rw[beq_self_eq_true]
   by_cases e:(s.lookup x).isNone=true
   ·rw[if_pos e,zg4,List.lookup_cons,beq_self_eq_true,Option.isNone_iff_eq_none.mp e];rfl
   ·rw[if_neg e]
    cases z:List.lookup x s with
    | none=>rw[z] at e;exact absurd rfl e
    | some u=>rfl
  ·rw[beq_eq_false_iff_ne.mpr q]
   by_cases e:(s.lookup y).isNone=true
   ·rw[if_pos e,zg4,List.lookup_cons,beq_eq_false_iff_ne.mpr q];show((s.lookup x).or none).or _=_;rw[Option.or_none]
   ·rw[if_neg e]
theorem zv6 {M:Model}{A:Around}{E:Value→Shared→Prop}{s:Shared}{Q:List (Str×Value)→Shared→Prop}: ∀(l t:List (Str×Value)),Q (z1o t l) s→
  wpAny M A (forIn l t fun(x:Str×Value) (t:List (Str×Value))=>if (t.lookup x.1).isNone=true then pure (ForInStep.yield (t++[(x.1,x.2)])) else pure (ForInStep.yield t)) Q E s
 | [],t,q=>wpAny_pure q
 | x::l,t,q=>by
  rw[List.forIn_cons]
  refine wpAny_bind ?_
  split
  ·exact wpAny_pure (zv6 l _ (by unfold z1o at q;rw[List.foldl_cons,if_pos (by assumption)] at q;exact q))
  ·exact wpAny_pure (zv6 l _ (by unfold z1o at q;rw[List.foldl_cons,if_neg (by assumption)] at q;exact q))
theorem z0e {L:Str→Option Value}: ∀{ps:List Str}{cs:List Value},ps.length=cs.length→(∀(i:Nat) x v,ps[i]? =some x→cs[i]? =some v→L x=some v)→ps.filterMap (fun n=>(L n).map (n,·))=ps.zip cs
 | [],_,_,_=>rfl
 | _::_,[],h,_=>nomatch h
 | p::ps,c::cs,h,k=>by
  simp only[List.filterMap_cons,k 0 p c rfl rfl,List.zip_cons_cons,←z0e (Nat.succ.inj h) fun i x v a b=>k (i+1) x v a b];rfl
theorem zh5: ∀{ps:List Str}{cs:List Value},ps.Nodup→∀{i:Nat}{x:Str},ps[i]? =some x→(ps.zip cs).lookup x=cs[i]?
 | [],_,_,_,_,h=>nomatch h
 | _::_,[],_,_,_,_=>rfl
 | p::ps,c::cs,hn,0,x,h=>by cases h;(dsimp only[List.zip_cons_cons,List.lookup_cons];rw[beq_self_eq_true]);rfl
 | p::ps,c::cs,hn,i+1,x,h=>by
  rw[List.nodup_cons] at hn
  have h:ps[i]? =some x:=h
  have ne:x≠p:=fun q=>hn.1 (by rw[←q];exact List.mem_of_getElem? h)
  (dsimp only[List.zip_cons_cons,List.lookup_cons];rw[beq_eq_false_iff_ne.mpr ne]);exact zh5 hn.2 h
theorem z1x {p:Arguments} (h1:p.posonlyargs=[]) (h2:p.vararg=none) (h3:p.kwonlyargs=[]) (h4:p.kwarg=none):p=⟨[],p.args,none,[],p.kw_defaults,none,p.defaults⟩:=by
 cases p;cases h1;cases h2;cases h3;cases h4;rfl
theorem zmn {p:Arguments}{ps:List Str} (h:zrp p ps=true):p=⟨[],p.args,none,[],p.kw_defaults,none,p.defaults⟩∧p.args.map Arg.arg=ps:=
 have h2:=(zb h).2
 have h3:=(zb h2).2
 have h4:=(zb h3).2
 ⟨z1x (List.isEmpty_iff.mp (zb h).1) (Option.isNone_iff_eq_none.mp (zb h2).1) (List.isEmpty_iff.mp (zb h3).1) (Option.isNone_iff_eq_none.mp (zb h4).1),beq_iff_eq.mp (zb h4).2⟩
theorem zv3 {ps:List Str}{cs ds:List Value}{c j:Nat} (hn:ps.Nodup) (hc:cs.length=j+c) (hp:ps.length=c+ds.length) (hj:j≤ds.length):
  ps.filterMap (fun n=>((z1o (ps.zip cs) ((ps.drop (ps.length-ds.length)).zip ds)).lookup n).map (n,·))=ps.zip (cs++ds.drop j):=by
 refine z0e (by simp only[List.length_append,List.length_drop,hc,hp,Nat.add_comm j c,Nat.add_assoc,Nat.add_sub_cancel' hj]) fun i x v h1 h2=>?_
 rw[zl8,zh5 hn h1,hp,Nat.add_sub_cancel]
 by_cases q:i<cs.length
 ·rw[List.getElem?_append_left q] at h2
  rw[h2];rfl
 ·have q:=Nat.le_of_not_lt q
  rw[List.getElem?_append_right q,List.getElem?_drop,hc] at h2
  rw[List.getElem?_eq_none q]
  obtain⟨i,rfl⟩:=Nat.exists_eq_add_of_le (hc▸q)
  rw[Nat.add_sub_cancel_left] at h2
  have e:(ps.drop c)[j+i]? =some x:=by rw[List.getElem?_drop,←h1,←Nat.add_assoc,Nat.add_comm c j]
  show((ps.drop c).zip ds).lookup x=_
  rw[zh5 (hn.sublist (List.drop_sublist _ _)) e,h2]
theorem zv7 {ps:List Str}{cs:List Value}{k:Nat} (hn:ps.Nodup) (hk:k≤cs.length):((ps.take k).filter fun n=>((ps.zip cs).lookup n).isNone).isEmpty=true:=by
 rw[List.isEmpty_iff,List.filter_eq_nil_iff]
 intro n hm
 obtain⟨i,hi⟩:=List.getElem?_of_mem hm
 rw[List.getElem?_take] at hi
 split at hi
 ·rename_i hik
  rw[zh5 hn hi,List.getElem?_eq_getElem (Nat.lt_of_lt_of_le hik hk)]
  exact Bool.false_ne_true
 ·exact(Option.some_ne_none _ hi.symm).elim
theorem zub {s:Shared}{f:FuncData}{ar:List Arg}{kd:List (Option Expr)}{de:List Expr}{cs ds:List Value}{c j:Nat} (hf:f.params=⟨[],ar,none,[],kd,none,de⟩) (hd:z69 s.heap f.defaults ds) (hn:(ar.map Arg.arg).Nodup)
  (hc:cs.length=j+c) (hp:(ar.map Arg.arg).length=c+ds.length) (hj:j≤ds.length):BindsTo s f ⟨cs,[]⟩ ((ar.map Arg.arg).zip (cs++ds.drop j)):=by
 obtain⟨_,_,_,_,_,_,_,dv,_,_,_,_,_,_⟩:=f
 cases hf
 rw[←zv3 hn hc hp hj]
 intro M A E Q q
 unfold bindArgs
 refine wpAny_bind (wpAny_pure (wpAny_bind (z5e hd fun d hds=>?_)))
 subst hds
 have e:(d.getD #[]).toList.drop ((d.getD #[]).toList.length-(ar.map Arg.arg).length)=(d.getD #[]).toList:=by rw[hp,Nat.sub_eq_zero_of_le (Nat.le_add_left ..)];rfl
 have m:=zv7 (cs:=cs) (k:=(ar.map Arg.arg).length-((d.getD #[]).toList.drop ((d.getD #[]).toList.length-(ar.map Arg.arg).length)).length) hn (by rw[e,hp,hc,Nat.add_sub_cancel];exact Nat.le_add_left ..)
 have q':Q ((ar.map Arg.arg++[]).filterMap (fun n=>((z1o ((ar.map Arg.arg).zip cs) (((ar.map Arg.arg).drop ((ar.map Arg.arg).length-((d.getD #[]).toList.drop ((d.getD #[]).toList.length-(ar.map Arg.arg).length)).length)).zip ((d.getD #[]).toList.drop ((d.getD #[]).toList.length-(ar.map Arg.arg).length)))).lookup n).map (n,·))) s:=by
  rw[e,List.append_nil];exact q
 have hl:cs.length≤(ar.map Arg.arg).length:=by rw[hc,hp,Nat.add_comm];exact Nat.add_le_add_left hj c
 exact zn4 (fun h=>absurd (of_decide_eq_true (zb h).1) (Nat.not_lt.mpr hl)) (zn4 (fun h=>Bool.noConfusion (m.symm.trans ((Bool.not_eq_true' _).mp h))) (wpAny_bind (zv6 _ _ (wpAny_bind (wpAny_pure (zn4 Bool.false_ne_true (wpAny_pure q')))))))
theorem zfl {s:Shared}{fd:FuncData}{ps:List Str}{cs ds:List Value}{c j:Nat} (hp:zrp fd.params ps=true) (hd:z69 s.heap fd.defaults ds) (hn:ps.Nodup) (hc:cs.length=j+c) (hpl:ps.length=c+ds.length) (hj:j≤ds.length):
  BindsTo s fd ⟨cs,[]⟩ (ps.zip (cs++ds.drop j)):=by
 obtain⟨e,rfl⟩:=zmn hp
 exact zub e hd hn hc hpl hj
noncomputable def z9d (o:Obj):Option FuncData:=match o.data with
 | .func fd=>some fd
 | _=>none
noncomputable def z4x (K:Frag) (f:Addr):Option FuncData:=(K.lookup f).bind z9d
theorem zqb {K:Frag}{f:Addr}{fd:FuncData} (h:z4x K f=some fd): ∃o,K.lookup f=some o∧o.data= .func fd:=by
 obtain⟨o,e1,e2⟩:=Option.bind_eq_some_iff.mp h
 refine⟨o,e1,?_⟩
 unfold z9d at e2
 generalize o.data=d at e2
 cases d<;>cases e2
 rfl
noncomputable def zec (fd:FuncData):List Stmt:=match fd.body with
 | .stmts b=>b
 | _=>[]
noncomputable def zon (fd:FuncData):Bool:=match fd.body with
 | .stmts _=>true
 | _=>false
theorem zff {α β:Type} [BEq α] [LawfulBEq α] {x:α}{k:β}: ∀{l:List (α×β)},l.lookup x=some k→(x,k)∈l
 | [],h=>by cases h
 | (y,d)::l,h=>by
  rw[List.lookup_cons] at h
  split at h
  ·rename_i e;rw[beq_iff_eq] at e;subst e;cases h;simp
  ·exact List.mem_cons_of_mem _ (zff h)
theorem zg6 {x:Str}: ∀(names:List (Str×NameKind)) (n:Nat) (acc:List (Str×Addr)),(acc.lookup x).isSome=true→((cellsFrom n names acc).lookup x).isSome=true
 | [],_,_,h=>h
 | (y,k)::r,n,acc,h=>by
  unfold cellsFrom
  split
  ·refine zg6 r _ _ ?_
   simp only[List.lookup_cons]
   split
   ·rfl
   ·exact h
  ·exact zg6 r _ _ h
theorem zcx {x:Str}: ∀(names:List (Str×NameKind)) (n:Nat) (acc:List (Str×Addr)),names.lookup x=some .cell→((cellsFrom n names acc).lookup x).isSome=true
 | [],_,_,h=>by exact(Option.some_ne_none _ h.symm).elim
 | (y,k)::r,n,acc,h=>by
  simp only[List.lookup_cons] at h
  unfold cellsFrom
  split at h
  ·rename_i e
   cases h
   rw[if_pos (by decide)]
   refine zg6 r _ _ ?_
   rw[List.lookup_cons,e];rfl
  ·split<;>exact zcx r _ _ h
noncomputable def zi0 (fd:FuncData) (L:Addr) (xs:List Str):List (Str×VK):=
 xs.map fun x=>(x,if fd.scope.names.lookup x=some .cell then .own (((cellsFrom (L+1) fd.scope.names []).lookup x).getD 0) else .loc)
noncomputable def z7b (fd:FuncData) (L f:Addr) (xs:List Str):FE:=⟨callEnvC fd L f,zi0 fd L xs⟩
noncomputable def zwu (fd:FuncData) (xs:List Str):Bool:=
 zkq xs&&xs.all fun x=>(fd.scope.names.lookup x==some .local||fd.scope.names.lookup x==some .cell)&&!(x==("__debug__":Str))&&!(x==("__classdict__":Str))
noncomputable def zo6 (fd:FuncData) (C:SC):Bool:=(C.names.all fun p=>fd.scope.names.lookup p.1==some p.2)&&C.cells.all fun x=>fd.scope.names.lookup x==some .cell
noncomputable def zd5 (ps rest:List Str) (names:List (Str×NameKind)) (fns meths:List String) (cells:List Str):SC:=⟨(ps++rest).map (·,false),names,fns,meths,cells⟩
noncomputable def z0g (v:V) (c:Value):Bool:=match v with
 | .none=>c== .none
 | .bool b=>c== .bool b
 | _=>false
theorem zue {v:V}{c:Value} (h:z0g v c=true) (hh:Heap):RV hh c v:=by
 cases v<;>first | exact absurd h Bool.false_ne_true | (cases beq_iff_eq.mp h;constructor)
noncomputable def zod:List V→List Value→Bool
 | [],cs=>cs.isEmpty
 | v::vs,cs=>cs.head?.any fun c=>z0g v c&&zod vs cs.tail
theorem zkv {h:Heap}: ∀{vs:List V}{cs:List Value},zod vs cs=true→RVs h cs vs
 | [],cs,q=>by cases List.isEmpty_iff.mp q;exact .nil
 | v::vs,cs,q=>by
  cases cs with
  | nil=>cases q
  | cons c cs=>exact .cons (zue (zb q).1 h) (zkv (zb q).2)
noncomputable def z6j (o:Obj):List Value:=match o.data with
 | .seq arr _=>arr.toList
 | _=>[]
noncomputable def z3h (o:Obj):Bool:=match o.data with
 | .seq _ _=>true
 | _=>false
theorem zup {o:Obj} (h:z3h o=true): ∃arr n,o.data= .seq arr n:=by
 unfold z3h at h
 generalize o.data=d at h
 cases d<;>first | exact absurd h Bool.false_ne_true | exact⟨_,_,rfl⟩
noncomputable def z83 (v:Value):Option Addr:=match v with
 | .ref T=>some T
 | _=>none
theorem zxa {v:Value}{T:Addr} (h:z83 v=some T):v= .ref T:=by cases v<;>cases h;rfl
noncomputable def z0j (K:Frag) (v:Value) (ds:List V):Bool:=(v== .none&&ds.isEmpty)||(z83 v).any fun T=>(K.lookup T).any fun o=>z3h o&&zod ds (z6j o)
theorem zi8 {α:Type}{o:Option α}{f:α→Bool} (h:o.any f=true): ∃a,o=some a∧f a=true:=by
 cases o with
 | none=>cases h
 | some a=>exact⟨a,rfl,h⟩
theorem zvs {K:Frag}{v:Value}{ds:List V}{h:Heap} (X:K.In h) (q:z0j K v ds=true): ∃cs,z69 h v cs∧RVs h cs ds:=by
 rcases (Bool.or_eq_true _ _).mp q with q | q
 ·have q2:=List.isEmpty_iff.mp (zb q).2
  exact⟨[],.inl ⟨beq_iff_eq.mp (zb q).1,rfl⟩,q2 ▸ .nil⟩
 ·obtain⟨T,eT,q⟩:=zi8 q
  obtain⟨o,eo,q⟩:=zi8 q
  obtain⟨q1,q2⟩:=zb q
  obtain⟨arr,n,e⟩:=zup q1
  refine⟨_,.inr ⟨_,_,_,_,zxa eT,X _ _ eo,e,rfl⟩,?_⟩
  unfold z6j at q2
  rw[e] at q2
  exact zkv q2
noncomputable def z7e (K:Frag) (fd:FuncData) (ps:List Str):Bool:=
 codeIn K fd.code fd.qualname&&(fd.globals==mainGlobals&&(fd.builtins==builtinsNs&&(zrp fd.params ps&&(!fd.scope.isCoroutine&&(!fd.scope.isGenerator&&fd.scope.kind== .function)))))
structure FdOk (K:Frag) (fd:FuncData) (ps:List Str):Prop where
 code:codeIn K fd.code fd.qualname=true
 glb:fd.globals=mainGlobals
 bui:fd.builtins=builtinsNs
 par:zrp fd.params ps=true
 co:fd.scope.isCoroutine=false
 ge:fd.scope.isGenerator=false
 fn:fd.scope.kind= .function
theorem ztj {K:Frag}{fd:FuncData}{ps:List Str} (h:z7e K fd ps=true):FdOk K fd ps:=
 have h2:=(zb h).2
 have h3:=(zb h2).2
 have h4:=(zb h3).2
 have h5:=(zb h4).2
 have h6:=(zb h5).2
 ⟨(zb h).1,beq_iff_eq.mp (zb h2).1,beq_iff_eq.mp (zb h3).1,(zb h4).1,(Bool.not_eq_true' _).mp (zb h5).1,(Bool.not_eq_true' _).mp (zb h6).1,beq_iff_eq.mp (zb h6).2⟩
noncomputable def zqu (K:Frag) (f:Addr) (ds:List V) (ps rest:List Str) (C:SC) (mine:List Sm):Bool:=
 (z4x K f).any fun fd=>z7e K fd ps&&(z0j K fd.defaults ds&&(zo6 fd C&&(zwu fd (ps++rest)&&(fd.closure.isEmpty&&(zon fd&&zc6 C mine (zec fd))))))
noncomputable def zhg (K:Frag) (f:Addr) (ps rest:List Str) (C:SC) (mine:List Sm):Bool:=zqu K f [] ps rest C mine
theorem zD {fd:FuncData}{L:Addr}{xs:List Str}{i:Nat}{x:Str}{k:VK} (h:(zi0 fd L xs)[i]? =some (x,k)):
  xs[i]? =some x∧k=if fd.scope.names.lookup x=some .cell then .own (((cellsFrom (L+1) fd.scope.names []).lookup x).getD 0) else .loc:=by
 unfold zi0 at h
 rw[List.getElem?_map,Option.map_eq_some_iff] at h
 obtain⟨y,a,b⟩:=h
 cases b
 exact⟨a,rfl⟩
theorem zqy {x y:Str}{c:Addr}: ∀{l:List (Str×Addr)},(l.Pairwise fun x y=>x.2≠y.2)→(x,c)∈l→(y,c)∈l→x=y
 | [],_,h,_=>by cases h
 | (z,d)::l,ap,h1,h2=>by
  rw[List.pairwise_cons] at ap
  rcases List.mem_cons.mp h1 with e1 | e1<;>rcases List.mem_cons.mp h2 with e2 | e2
  ·cases e1;cases e2;rfl
  ·cases e1;exact absurd rfl (ap.1 (y,c) e2)
  ·cases e2;exact absurd rfl (ap.1 (x,c) e1)
  ·exact zqy ap.2 e1 e2
section
variable {G:GS}{A:Around}
theorem zk6 {fd:FuncData}{xs:List Str} (h:zwu fd xs=true):xs.Nodup∧∀x∈xs,(fd.scope.names.lookup x=some .local∨fd.scope.names.lookup x=some .cell)∧(x==("__debug__":Str))=false∧(x==("__classdict__":Str))=false:=by
 unfold zwu at h
 simp only[Bool.and_eq_true,List.all_eq_true,Bool.not_eq_true',beq_iff_eq,Bool.or_eq_true] at h
 exact⟨zcw h.1,fun x hx=>⟨(h.2 x hx).1.1,(h.2 x hx).1.2,(h.2 x hx).2⟩⟩
theorem z73 {fd:FuncData}{L f:Addr}{xs:List Str} (h:zwu fd xs=true) (h2:fd.scope.kind= .function) (h3:fd.globals=mainGlobals) (h4:fd.builtins=builtinsNs)
  (ab: ∀n c,(n,c)∈cellsFrom (L+1) fd.scope.names []→L<c) (ap:(cellsFrom (L+1) fd.scope.names []).Pairwise fun x y=>x.2≠y.2):(z7b fd L f xs).ok:=by
 obtain⟨nd,hl⟩:=zk6 h
 have cl: ∀{x:Str} {c:Addr},VK.own c=(if fd.scope.names.lookup x=some .cell then VK.own (((cellsFrom (L+1) fd.scope.names []).lookup x).getD 0) else .loc)→
   fd.scope.names.lookup x=some .cell∧(cellsFrom (L+1) fd.scope.names []).lookup x=some c:=fun {x c} e=>by
  split at e
  ·rename_i q
   cases e
   obtain⟨c,hc⟩:=Option.isSome_iff_exists.mp (zcx fd.scope.names (L+1) [] q)
   exact⟨q,by rw[hc];rfl⟩
  ·cases e
 have same: ∀(i j:Nat) x k k',(zi0 fd L xs)[i]? =some (x,k)→(zi0 fd L xs)[j]? =some (x,k')→i=j:=fun i j x k k' hx hy=>by
  have hx:=(zD hx).1
  have hy:=(zD hy).1
  obtain⟨hi,_⟩:=List.getElem?_eq_some_iff.mp hx
  exact(List.getElem?_inj hi nd).mp (hx.trans hy.symm)
 refine⟨h2,h3,h4,?_,?_,?_,same,?_,?_⟩
 ·intro i x hx
  obtain⟨a,b⟩:=zD hx
  rcases (hl x (List.mem_of_getElem? a)).1 with q | q
  ·exact q
  ·rw[if_pos q] at b;cases b
 ·intro i x c hx
  obtain⟨a,b⟩:=zD hx
  obtain⟨b1,b2⟩:=cl b
  exact⟨b1,b2,Nat.ne_of_gt (ab x c (mem_of_lookup b2))⟩
 ·intro i x c hx
  have b:=(zD hx).2
  split at b<;>cases b
 ·intro i j x y c hx hy
  have hx':=(cl (zD hx).2).2
  have hy':=(cl (zD hy).2).2
  cases zqy ap (mem_of_lookup hx') (mem_of_lookup hy')
  exact same i j x _ _ hx hy
 ·intro i x k hx
  exact(hl x (List.mem_of_getElem? (zD hx).1)).2
theorem z7r {fd:FuncData}{L f:Addr}{ps rest:List Str}{names:List (Str×NameKind)}{fns meths:List String}{cells:List Str} (h:zo6 fd (zd5 ps rest names fns meths cells)=true)
  (hf: ∀n,n∈fns→n∈G.fns) (hm: ∀n,n∈meths→n∈G.meths):(zd5 ps rest names fns meths cells).ok G (z7b fd L f (ps++rest)):=by
 unfold zo6 at h
 rw[Bool.and_eq_true] at h
 refine⟨?_,hf,hm,?_,?_⟩
 ·intro i x hx e
  have q:fd.scope.names.lookup x=some .cell:=beq_iff_eq.mp (List.all_eq_true.mp h.2 x hx)
  have b:=(zD e).2
  rw[if_pos q] at b;cases b
 ·intro i x r hx
  replace hx:((ps++rest).map (·,false))[i]? =some (x,r):=hx
  rw[List.getElem?_map,Option.map_eq_some_iff] at hx
  obtain⟨y,a,b⟩:=hx
  cases b
  refine⟨_,by show(zi0 fd L (ps++rest))[i]? =_;unfold zi0;rw[List.getElem?_map,a];rfl,fun _ c q=>?_⟩
  split at q<;>cases q
 ·intro x hx
  exact beq_iff_eq.mp (List.all_eq_true.mp h.1 _ (zff hx))
noncomputable def zjb (G:GS) (A:Around) (f:Value) (vs:List V) (Q:V→Mem→Prop) (m:Mem):Prop:=
 ∀frz s cvs,Rp G frz m s→RVs s.heap cvs vs→codeAny (model G.prog G.w) A (.call f ⟨cvs,[]⟩)
  (fun r s'=>match r with
   | .ok (.ret v)=>PR G frz s Q v s'
   | .ok _=>False
   | .error e=>NoE e s') s
theorem zjb.toS {f:Value}{vs:List V}{Q:V→Mem→Prop}{m:Mem} (h:zjb G A f vs Q m):zdk G A f vs Q m:=
 .of fun frz s cvs r hv=>wpAny_call (h frz s cvs r hv)
theorem Rp.none_of_ge {frz:Frz}{m:Mem}{s:Shared} (r:Rp G frz m s) {a:Addr} (h:s.heap.objs.size≤a):m a=none∧frz a=none:=by
 constructor
 ·cases e:m a with
  | none=>rfl
  | some o=>exact absurd (r.hmem _ _ e).lt (Nat.not_lt.mpr h)
 ·cases e:frz a with
  | none=>rfl
  | some o=>exact absurd (Heap.lt_size (r.hfrz _ _ e)) (Nat.not_lt.mpr h)
theorem zvl {fd:FuncData}{f:Addr}{ps rest:List Str}{vs:List V}{cvs:List Value}{frz:Frz}{m:Mem}{s:Shared}{h₁:Heap}{tk:Nat} (r:Rp G frz m s) (hv:RVs s.heap cvs vs) (hl:vs.length=ps.length) (hloc:zwu fd (ps++rest)=true)
  (x:InCallC s (callEnvC fd s.heap.objs.size f).locals (bindL (callEnvC fd s.heap.objs.size f).kindOf (ps.zip cvs) fun _=>none) (callEnvC fd s.heap.objs.size f).cells (bindC (callEnvC fd s.heap.objs.size f).kindOf (ps.zip cvs) fun _=>none) {s with heap:=h₁,toks:=tk}):
  Rep G (z7b fd s.heap.objs.size f (ps++rest)) frz ⟨vs.map some++List.replicate rest.length none,m⟩ {s with heap:=h₁,toks:=tk}∧TK s.heap h₁:=by
 obtain⟨nd,hlk⟩:=zk6 hloc
 have hkeep:=x.toInCall.keep
 have tk0:TK s.heap h₁:= .of hkeep
 have ndp:=(List.nodup_append.mp nd).1
 have ge: ∀{y:Str} {c:Addr},(cellsFrom (s.heap.objs.size+1) fd.scope.names []).lookup y=some c→s.heap.objs.size≤c:=fun e=>Nat.le_of_lt (x.above _ _ (mem_of_lookup e))
 have val: ∀{i:Nat} {y:Str} {v:V},(ps++rest)[i]? =some y→(vs.map some++List.replicate rest.length none)[i]? =some (some v)→∃cv,ps[i]? =some y∧cvs[i]? =some cv∧RV s.heap cv v:=fun {i y v} h1 h2=>by
  by_cases hi:i<ps.length
  ·rw[List.getElem?_append_left hi] at h1
   rw[List.getElem?_append_left (by rw[List.length_map];exact zf 42121675356701786667 rfl hl hi),List.getElem?_map,Option.map_eq_some_iff] at h2
   obtain⟨u,hu,e2⟩:=h2
   cases e2
   obtain⟨cv,a,b⟩:=hv.get hu
   exact⟨cv,h1,a,b⟩
  ·rw[List.getElem?_append_right (by rw[List.length_map];exact zf 78438641144831738410 rfl hl hi),List.getElem?_replicate] at h2
   split at h2<;>cases h2
 refine⟨⟨let ⟨_,_,e⟩:=r.same;⟨h₁,tk,by rw[e]⟩,r.hbase,r.hkeep,fun b o e=>hkeep b o (r.hfrz b o e),fun a o e=>(r.hmem a o e).keep tk0 (hkeep a),r.hmemF,r.hsz,(r.none_of_ge (Nat.le_refl _)).2,(r.none_of_ge (Nat.le_refl _)).1,?_,?_,?_⟩,tk0⟩
 ·refine⟨_,x.toInCall.ns,fun i y v hx hv'=>?_⟩
  obtain⟨a,b⟩:=zD hx
  obtain⟨cv,c1,c2,c3⟩:=val a hv'
  refine⟨cv,zin ndp c1 c2 ?_,c3.tk tk0⟩
  rcases (hlk y (List.mem_of_getElem? a)).1 with q | q
  ·exact q
  ·rw[if_pos q] at b;cases b
 ·intro i y c hx
  obtain⟨a,b⟩:=zD hx
  split at b
  ·rename_i q
   cases b
   obtain⟨c,hc⟩:=Option.isSome_iff_exists.mp (zcx fd.scope.names (s.heap.objs.size+1) [] q)
   rw[hc]
   have g:=ge hc
   obtain⟨co,g1,g2⟩:=x.cell y c hc
   refine⟨(r.none_of_ge g).2,(r.none_of_ge g).1,co,_,g1,g2,fun v hv'=>?_⟩
   obtain⟨cv,c1,c2,c3⟩:=val a hv'
   refine⟨cv,zi1 ndp c1 c2 ?_,c3.tk tk0⟩
   show ¬fd.scope.names.lookup y=_
   rw[q];decide
  ·cases b
 ·intro i y c hx
  have b:=(zD hx).2
  split at b<;>cases b
theorem zoh {h:Heap}{cf:Flow}{fl:Fl}:RF h cf fl→RV h (match cf with | .ret v=>v | _=> .none) (retV fl):=by
 intro a
 cases a with
 | ret q=>exact q
 | next=>exact .none
 | brk=>exact .none
 | cont=>exact .none
theorem zj5 {fd:FuncData} (h:zon fd=true):fd.body= .stmts (zec fd):=by
 obtain⟨_,_,_,b,_,_,_,_,_,_,_,_,_,_⟩:=fd
 cases b<;>first | rfl | cases h
theorem zlr {f:Addr}{ds:List V}{c j:Nat}{ps rest:List Str}{names:List (Str×NameKind)}{fns meths:List String}{cells:List Str}{mine:List Sm}{P:PC}{vs:List V}{m:Mem}{Q:V→Mem→Prop}
  (gok:G.ok) (gbi:G.bi) (h:zqu G.K f ds ps rest (zd5 ps rest names fns meths cells) mine=true) (hd:A.depth<recursionLimit) (hA: ∀env,Rm (A.deeper env)) (hP: ∀env,P.run G (A.deeper env))
  (hf: ∀n,n∈fns→n∈G.fns) (hm: ∀n,n∈meths→n∈G.meths) (hl:vs.length=j+c) (hpl:ps.length=c+ds.length) (hj:j≤ds.length)
  (w:zs P mine (fun fl σ'=>Q (retV fl) σ'.mem) ⟨(vs++ds.drop j).map some++List.replicate rest.length none,m⟩):zjb G A (.ref f) vs Q m:=by
 obtain⟨fd,hfd,h⟩:=zi8 h
 obtain⟨o,hK,hdt⟩:=zqb hfd
 obtain⟨h0,h⟩:=zb h
 obtain⟨h1,h⟩:=zb h
 obtain⟨h2,h⟩:=zb h
 obtain⟨h3,h⟩:=zb h
 obtain⟨h4,h⟩:=zb h
 obtain⟨h5,h6⟩:=zb h
 have F:=ztj h0
 have nd:=zk6 h3
 intro frz s cvs r hv
 have kin:G.K.In s.heap:=fun a o e=>r.hfrz _ _ (r.hbase _ _ (gok.k a o e))
 have hlim:s.heap.NoLimit:=gok.lim.keeps fun b o e=>r.hfrz _ _ (r.hbase _ _ e)
 obtain⟨dvs,hdv,rdv⟩:=zvs kin h1
 have hz:=hv.length
 have hdz:=rdv.length
 have rall:=hv.append (rdv.drop j)
 refine codeAny_call_function hd (kin _ _ hK) hdt F.co F.ge (zj5 h5) (codeRec_of kin F.code) ?_
 refine zfl (c:=c) (j:=j) F.par hdv (List.nodup_append.mp nd.1).1 (hz.trans hl) (hdz▸hpl) (hdz▸hj) _ _ _ _ ?_
 rw[List.isEmpty_iff.mp h4]
 refine wpAny_newFunctionEnv_cells F.fn ?_ fun env he s₁ x=>?_
 ·intro y hy
  rcases (nd.2 y.1 (List.mem_append_left _ (List.of_mem_zip hy).1)).1 with q | q
  ·exact .inl q
  ·exact .inr ⟨q,zcx _ _ _ q⟩
 ·subst he
  refine⟨hlim.keeps x.toInCall.keep,codeAny_func ?_⟩
  obtain⟨h₁,tk,rfl,_⟩:=x.done
  obtain⟨r0,t0⟩:=zvl (rest:=rest) r rall (by simp only[List.length_append,List.length_drop,hl,hpl,Nat.add_comm j c,Nat.add_assoc,Nat.add_sub_cancel' hj]) h3 x
  have ok:(z7b fd s.heap.objs.size f (ps++rest)).ok:=z73 h3 F.fn F.glb F.bui (fun n c hm=>x.above n c hm) x.apart
  exact(zwh mine _ _ ⟨gok,gbi,hA _,hP _,ok,z7r h2 hf hm⟩ (zec fd) h6 _ _ w).then r0 fun cf fl σ₁ s₁ a1 r1 t1 w1=>⟨retV fl,_,zoh a1,r1.rp,t0.trans t1,w1⟩
theorem zag {f:Addr}{ps rest:List Str}{names:List (Str×NameKind)}{fns meths:List String}{cells:List Str}{mine:List Sm}{P:PC}{vs:List V}{m:Mem}{Q:V→Mem→Prop}
  (gok:G.ok) (gbi:G.bi) (h:zhg G.K f ps rest (zd5 ps rest names fns meths cells) mine=true) (hd:A.depth<recursionLimit) (hA: ∀env,Rm (A.deeper env)) (hP: ∀env,P.run G (A.deeper env))
  (hf: ∀n,n∈fns→n∈G.fns) (hm: ∀n,n∈meths→n∈G.meths) (hl:vs.length=ps.length)
  (w:zs P mine (fun fl σ'=>Q (retV fl) σ'.mem) ⟨vs.map some++List.replicate rest.length none,m⟩):zjb G A (.ref f) vs Q m:=
 zlr (ds:=[]) (c:=ps.length) (j:=0) gok gbi h hd hA hP hf hm (hl.trans (Nat.zero_add _).symm) rfl (Nat.le_refl _) (by rw[show vs++List.drop 0 ([]:List V)=vs from List.append_nil vs];exact w)
end
section
variable {G:GS}{A:Around}{Γ:FE}{frz:Frz}{σ:St}{s:Shared}
theorem zrm {C fI:Addr}{Q:V→Mem→Prop}{m:Mem} (gok:G.ok) (hm:makesIn G.K C=true) (hi:findIn G.K (.ref C) "__init__"=some (some (.ref fI))) (hf:typeIn G.K (.ref fI)=some (.type "function"))
  (h: ∀x d,m x=none→m d=none→x≠d→zjb G (A.under (.builtin "type.__call__" ⟨[.ref C],[]⟩)) (.ref fI) [.obj x] (fun r m'=>r= .none∧Q (.obj x) m') (upd (upd m d (.dict [])) x (.inst C d))):zdk G A (.ref C) [] Q m:=by
 intro Γ frz σ s cvs ok r hmem hv
 refine wpAny_call ?_
 cases hv
 obtain⟨mm,nm,_⟩:=r.hns
 refine make_K (r.fr nm) (r.rest []) (r.kin gok) hm hi hf fun x d h' F' N' hlt hdx=>?_
 have N2:News G.base Γ.env.locals h' (zjr G Γ.env.locals s.heap []):=fun p hp=>N' p (List.mem_cons_of_mem _ (List.mem_cons_of_mem _ hp))
 have gx:=N' _ (List.mem_cons_self)
 have gd:=N' _ (List.mem_cons_of_mem _ (List.mem_cons_self))
 have keepL: ∀b o,b≠Γ.env.locals→s.heap.get? b=some o→h'.get? b=some o:=fun b o hb e=>r.keep_of_rest F' N2 b o (by simp) hb e
 have kp:Kp Γ.env.locals s.heap h':=⟨keepL,fun m' n'=>ztg nm n'▸F'.ns⟩
 have new: ∀b,b≠Γ.env.locals→G.base.get? b=none→d≤b→s.heap.get? b=none:=fun b hb hbase hle=>by
  cases q:s.heap.get? b with
  | none=>rfl
  | some o=>exact absurd (hlt (b,o) (zet.mpr ⟨hb,by simp,hbase,q⟩)) (by simp;omega)
 have sd:=new d gd.2.1 gd.2.2 (Nat.le_refl _)
 have sx:=new x gx.2.1 gx.2.2 (Nat.le_of_lt hdx)
 have none_of: ∀b,s.heap.get? b=none→σ.mem b=none∧frz b=none∧(∀(i:Nat) y c,Γ.vars[i]? =some (y,.own c)→c≠b):=fun b hb=>by
  refine⟨?_,?_,?_⟩
  ·cases e:σ.mem b with
   | none=>rfl
   | some o=>obtain⟨y,ey,_⟩:=(r.hmem _ _ e).obj;rw[hb] at ey;cases ey
  ·cases e:frz b with
   | none=>rfl
   | some o=>have:=r.hfrz _ _ e;rw[hb] at this;cases this
  ·intro i y c e q
   obtain⟨_,_,o,_,g,_⟩:=r.hown i y c e
   rw[q,hb] at g;exact(Option.some_ne_none _ g.symm).elim
 have r1:=r.growL ok (tk:=s.toks) kp
 obtain⟨d1,d2,d3⟩:=none_of d sd
 obtain⟨x1,x2,x3⟩:=none_of x sx
 have hne:x≠d:=Nat.ne_of_gt hdx
 have r2:=r1.join (a:=d) (o:= .dict []) d1 d2 gd.2.1 d3 (.dict (n:=0) (es:=[]) gd.1 trivial)
 have r3:=r2.join (a:=x) (o:= .inst C d) (by show upd _ _ _ _=_;rw[upn _ _ hne];exact x1) x2 gx.2.1 x3 (.inst gx.1)
 have t1:TK s.heap h':=r.kp_tk kp
 subst hmem
 refine codeAny_mono (h x d x1 d1 hne _ _ [.ref x] r3.inn (.cons (.obj x) .nil)) fun rr s' p=>?_
 rcases rr with e | (_ | _ | _ | v)
 ·exact p.elim
 ·exact p.elim
 ·exact p.elim
 ·exact p.elim
 ·obtain⟨v',m',a,b,c,rfl,q⟩:=p
  cases a
  exact⟨rfl,.obj x,m',.obj x,Rep.back r3 rfl b (fun _ _ q _ e=>yN.mpr ⟨q,e⟩) c,t1.trans c,q⟩
end
structure Lv (A:Around) (k:Nat):Prop where
 hd:A.handled=none
 dp:A.depth+k<recursionLimit
 un:A.units+4 * k+80<cLine
theorem Lv.deeper {A:Around}{k:Nat} (h:Lv A (k+1)) (env:Env):Lv (A.deeper env) k:=
 ⟨h.hd,by have:=h.dp;show A.depth+1+k<_;exact zf 10318666282773073456272425 rfl this,by have:=h.un;show A.units+3+4 * k+80<_;exact zf 11640051065295205308709492342586557375529 rfl this⟩
theorem Lv.rm {A:Around}{k:Nat} (h:Lv A k):Rm A:=⟨h.hd,by have:=h.un;exact zf 84653823084901964365317579817 rfl this⟩
theorem Lv.less {A:Around}{k j:Nat} (h:Lv A k) (e:j≤k):Lv A j:=⟨h.hd,by have:=h.dp;exact zP 120935456316087002934608424 rfl e this,by have:=h.un;exact zP 136676541103115077190083143544267457757832 rfl e this⟩
theorem Lv.room {A:Around}{k:Nat} (h:Lv A k):A.depth<recursionLimit:=by have:=h.dp;exact zf 9575038026519593 rfl this
noncomputable def fnV (K:Frag) (n:String):Value:=match nsIn K mainGlobals (Str.ofString n) with
 | some (some f)=>f
 | _=> .none
noncomputable def z5t (K:Frag) (fns:List String):Bool:=fns.all fun n=>match nsIn K mainGlobals (Str.ofString n) with
 | some (some f)=>keepIn K f
 | _=>false
noncomputable def meA (K:Frag) (C:Addr) (n:String):Addr:=match findIn K (.ref C) (Str.ofString n) with
 | some (some (.ref f))=>f
 | _=>0
noncomputable def ztd (K:Frag) (C:Addr) (ms:List String):Bool:=ms.all fun n=>match findIn K (.ref C) (Str.ofString n) with
 | some (some (.ref f))=>isFn K (.ref f)&&plainGet K C (Str.ofString n)&&keepIn K (.ref f)
 | _=>false
structure Base (G:GS) (P:PC):Prop where
 gok:G.ok
 gbi:G.bi
 pc:P.ok G
 fns:z5t G.K G.fns=true
 meths:ztd G.K P.cls G.meths=true
theorem zhl {G:GS}{A:Around}{P:PC} (b:Base G P) (hcall: ∀n,n∈G.fns→∀vs Q m,P.call n vs Q m→zdk G A (fnV G.K n) vs Q m) (hmeth: ∀n,n∈G.meths→∀vs Q m,P.meth n vs Q m→zdk G A (.ref (meA G.K P.cls n)) vs Q m)
  (hloc: ∀v vs Q m,P.loc v vs Q m→∃a fo fd,v= .obj a∧m a=some (.fn fo)∧fo.data= .func fd∧zdk G A (.ref a) vs Q m):P.run G A where
 ok:=b.pc
 call:=fun n hn=>by
  have h:=List.all_eq_true.mp b.fns n hn
  have hc:=hcall n hn
  unfold fnV at hc
  split at h
  ·rename_i f e
   rw[e] at hc
   exact⟨f,e,h,hc⟩
  ·cases h
 meth:=fun n hn=>by
  have h:=List.all_eq_true.mp b.meths n hn
  have hc:=hmeth n hn
  unfold meA at hc
  split at h
  ·rename_i f e
   rw[e] at hc
   simp only[Bool.and_eq_true] at h
   exact⟨f,e,h.1.1,h.1.2,h.2,hc⟩
  ·cases h
 loc:=hloc
noncomputable def za2 (cls:Addr):PC where
 cls:=cls
 fld:=fun n=>["Diff_Timeout","Diff_EditCost","Match_Threshold","Match_Distance","Patch_DeleteThreshold","Patch_Margin","Match_MaxBits"].contains n
 cc:=fun n=>if n="DIFF_DELETE" then some (.int (-1)) else if n="DIFF_INSERT" then some (.int 1) else if n="DIFF_EQUAL" then some (.int 0) else none
 call:=fun _ _ _ _=>False
 meth:=fun _ _ _ _=>False
 loc:=fun _ _ _ _=>False
theorem Base.swap {G:GS}{P P':PC} (b:Base G P) (h1:P'.cls=P.cls) (h2:P'.fld=P.fld) (h3:P'.cc=P.cc):Base G P':=by
 refine⟨b.gok,b.gbi,⟨?_,?_,?_,?_,?_⟩,b.fns,?_⟩
 ·rw[h1];exact b.pc.hd
 ·rw[h1,h2];exact b.pc.get
 ·rw[h1,h3];exact b.pc.cc
 ·rw[h1];exact b.pc.set
 ·rw[h1];exact b.pc.over
 ·rw[h1];exact b.meths
theorem zzc {G:GS}{A:Around}{cls:Addr} (b:Base G (za2 cls)):(za2 cls).run G A:=
 zhl b (fun _ _ _ _ _ h=>h.elim) (fun _ _ _ _ _ h=>h.elim) (fun _ _ _ _ h=>h.elim)
noncomputable def vA:Value→Addr
 | .ref a=>a
 | _=>0
noncomputable def fnA (K:Frag) (n:String):Addr:=vA (fnV K n)
noncomputable def ze7 (K:Frag):Addr:=fnA K "diff_match_patch"
noncomputable def zy3:List String:=["Diff_Timeout","Diff_EditCost","Match_Threshold","Match_Distance","Patch_DeleteThreshold","Patch_Margin","Match_MaxBits"]
noncomputable def z4z (K:Frag) (cls:Addr) (n:String) (k:Int):Bool:=plainGet K cls (Str.ofString n)&&!copiedNames.contains (Str.ofString n) &&
 match findIn K (.ref cls) (Str.ofString n) with
 | some (some (.int i t))=>i==k&&specialIn K (.int i t) "__get__"==some none
 | _=>false
noncomputable def z28 (K:Frag) (cls:Addr):Bool:=
 hasDictIn K cls&&zy3.all (fun n=>plainGet K cls (Str.ofString n)&&findIn K (.ref cls) (Str.ofString n)==some none&&takerIn K cls (Str.ofString n)==some none) &&
 findIn K (.ref cls) "__setattr__"==some (some (.builtin "object.__setattr__"))&&plainOver K cls&&z4z K cls "DIFF_DELETE" (-1)&&z4z K cls "DIFF_INSERT" 1&&z4z K cls "DIFF_EQUAL" 0
noncomputable def zvy (K:Frag):Bool:=K.all fun p=>!(p.2.cls== .type "list")
noncomputable def z4v (K:Frag):Bool:=["len","min","max","sum","range","list","chr","ord"].all fun n=>nsIn K mainGlobals (Str.ofString n)==some none
theorem zo0 {K:Frag}{cls:Addr}{n:String}{k:Int} (h:z4z K cls n k=true):plainGet K cls (Str.ofString n)=true∧copiedNames.contains (Str.ofString n)=false∧
  ∃a,findIn K (.ref cls) (Str.ofString n)=some (some a)∧specialIn K a "__get__"=some none∧handedIn a=true∧∀h,RV h a (.int k):=by
 unfold z4z at h
 simp only[Bool.and_eq_true,Bool.not_eq_true'] at h
 obtain⟨⟨h1,h2⟩,h3⟩:=h
 refine⟨h1,h2,?_⟩
 split at h3
 ·rename_i i t e
  simp only[Bool.and_eq_true,beq_iff_eq] at h3
  obtain⟨rfl,h3⟩:=h3
  exact⟨_,e,h3,rfl,fun _=> .int _ _⟩
 ·cases h3
theorem z8g {G:GS} (h:z28 G.K (ze7 G.K)=true):(za2 (ze7 G.K)).ok G:=by
 unfold z28 at h
 simp only[Bool.and_eq_true,beq_iff_eq,List.all_eq_true] at h
 obtain⟨⟨⟨⟨⟨⟨h1,h2⟩,h3⟩,h4⟩,h5⟩,h6⟩,h7⟩:=h
 constructor
 ·exact h1
 ·intro n hn
  have:=h2 n (List.contains_iff_mem.mp hn)
  exact⟨this.1.1,this.1.2,this.2⟩
 ·intro n v hv
  replace hv:(if n="DIFF_DELETE" then some (V.int (-1)) else if n="DIFF_INSERT" then some (.int 1) else if n="DIFF_EQUAL" then some (.int 0) else none)=some v:=hv
  split at hv
  ·rename_i e;subst e;cases hv;exact zo0 h5
  ·split at hv
   ·rename_i e;subst e;cases hv;exact zo0 h6
   ·split at hv
    ·rename_i e;subst e;cases hv;exact zo0 h7
    ·cases hv
 ·exact h3
 ·exact h4
theorem z2u (b:Bi):bootBuiltins (Str.ofString b.name)=some b.val:=by
 cases b
 ·show bootBuiltins "len"=some (.builtin "len");boot_by_name
 ·show bootBuiltins "min"=some (.builtin "min");boot_by_name
 ·show bootBuiltins "max"=some (.builtin "max");boot_by_name
 ·show bootBuiltins "sum"=some (.builtin "sum");boot_by_name
 ·show bootBuiltins "range"=some (.type "range");boot_by_name
 ·show bootBuiltins "list"=some (.type "list");boot_by_name
 ·show bootBuiltins "chr"=some (.builtin "chr");boot_by_name
 ·show bootBuiltins "ord"=some (.builtin "ord");boot_by_name
noncomputable def z7k (sc:Addr) (o:Obj) (ns:List Int):Mem:=fun a=>if a=sc then some (.ro o (ns.map V.int)) else none
theorem zxn {sc a:Addr}{ol:Obj}{ns:List Int}{o:O} (e:z7k sc ol ns a=some o):a=sc∧O.ro ol (ns.map V.int)=o:=by
 unfold z7k at e
 split at e
 ·rename_i q;exact⟨q,Option.some.inj e⟩
 ·cases e
theorem zxq {h:Heap}{vs:List Value}{ns:List Int} (r:IntsAre vs ns):RVs h vs (ns.map V.int):=by
 induction r with
 | nil=>exact .nil
 | cons n t _ ih=>exact .cons (.int n t) ih
theorem zk4 {g:Heap}{sc b:Addr}{o ol:Obj}{xs:Array Value}{n:Nat} (gl:g.get? sc=some ol) (dl:ol.data= .seq xs n) (e:g.get? b=some o) (hd: ∀xs n,o.data≠ .seq xs n):(hideAll g [sc]).get? b=some o:=
 hideAll_get _ e fun q=>by
  obtain rfl:=List.mem_singleton.mp q
  obtain rfl:=Option.some.inj (gl.symm.trans e)
  exact hd _ _ dl
theorem z4q {g:Heap}{K:Frag}{sc:Addr}{ol:Obj} (X:K.In g) (hnl:zvy K=true) (gl:g.get? sc=some ol) (cl:ol.cls= .type "list"):K.In (hideAll g [sc]):=fun a o e=>hideAll_get _ (X a o e) fun q=>by
 obtain rfl:=List.mem_singleton.mp q
 have h2:=List.all_eq_true.mp hnl _ (mem_of_lookupK e)
 obtain rfl:=Option.some.inj (gl.symm.trans (X _ _ e))
 simp[cl] at h2
theorem zn8 {g:Heap}{sc:Addr}{ol:Obj}{xs:Array Value}{n:Nat} (gl:g.get? sc=some ol) (dl:ol.data= .seq xs n) {a:Addr}{m:Str→Option Value} (h:g.Ns a m):(hideAll g [sc]).Ns a m:=by
 obtain⟨o,es,ep,e,d,r⟩:=h
 exact⟨o,es,ep,zk4 gl dl e (fun xs n q=>by rw[d] at q;cases q),d,r⟩
theorem z7n (b:Bi):b.name∈["len","min","max","sum","range","list","chr","ord"]:=by cases b<;>decide +kernel
theorem zw6:Lv callerA 500:=⟨rfl,by show 301+500<1000;exact zsk 286825178857374777 rfl,by show callerA.units+4 * 500+80<cLine;decide⟩
noncomputable def zvc (as:List Addr) (h:Heap):Frag:=as.filterMap fun a=>(h.get? a).map fun o=>(a,o)
theorem zs5 {as:List Addr}{h:Heap}:(zvc as h).In h:=fun a o e=>by
 have:=mem_of_lookupK e
 unfold zvc at this
 rw[List.mem_filterMap] at this
 obtain⟨b,_,e⟩:=this
 rw[Option.map_eq_some_iff] at e
 obtain⟨x,e1,e2⟩:=e
 cases e2
 exact e1
noncomputable def z5d (chk:Frag→Bool) (as ts:List Addr):Hook where
 α:=Bool×List (Option Obj)
 obs:=fun s=>(chk (zvc as s.heap),ts.map s.heap.get?)
 val:=fun _=>(true,ts.map fun _=>some (tabObj #[]))
 says:=fun _ h=>(∃K:Frag,K.In h∧chk K=true)∧∀P,P∈ts→h.get? P=some (tabObj #[])
 of:=fun _ _ x=>⟨⟨_,zs5,(Prod.mk.inj x).1⟩,List.map_inj_left.mp (Prod.mk.inj x).2⟩
 keeps:=fun _ _ _ x k=>⟨let ⟨K,a,b⟩:=x.1;⟨K,fun p o e=>k _ _ (a p o e),b⟩,fun P hP=>k _ _ (x.2 P hP)⟩
theorem zum {p q:Program}{loose:List Str}{Xt:Shared→Bool}{α:Type}{Yf:Shared→α}{Ya:World→α}{N:Nat}{g0:Bool}
  (hb: ∀w:World,(fencedOpening treeTable p w N).map (fun s=>(s.heap,s.gens,s.drawn,s.toks))=some (boot_heap w.params,Array.mk [],boot_drawn,boot_toks))
  (h: ∀(w:World) (os:OsState),(topFrom treeTable p w N ⟨boot_heap w.params,Array.mk [],boot_drawn,boot_toks,os⟩).map (fun s=>(openSeen q loose (importedModules p.main.body) Xt g0 s,Yf s))=some (openGood q loose,Ya w)):
  LeftO p q loose Xt Yf Ya N g0:=fun w=>by
 refine bc fun z9=>?_
 obtain⟨⟨h0,gs,d,k,os⟩,e,e'⟩:=Option.map_eq_some_iff.mp (hb w)
 refine z9 ?_
 cases e'
 unfold openEnds
 rw[e]
 exact h w os
section
variable {P:PC}{m:Mem}{σ:St}
theorem r_lit {v:V}{Q:V→St→Prop}:wpE P (.lit v) Q σ=Q v σ:=rfl
theorem r_var {i:Nat}{Q:V→St→Prop}:wpE P (.var i) Q σ=(match σ.loc[i]? with | some (some v)=>Q v σ | _=>False):=rfl
theorem r_bin {op:Operator}{a b:Ex}{Q:V→St→Prop}:wpE P (.bin op a b) Q σ=wpE P a (fun v σ₁=>wpE P b (fun u σ₂=>zik σ₂.mem op v u fun r m=>Q r {σ₂ with mem:=m}) σ₁) σ:=rfl
theorem r_neg {a:Ex}{Q:V→St→Prop}:wpE P (.neg a) Q σ=wpE P a (fun v σ₁=>match v with | .int i=>Q (.int (-i)) σ₁ | _=>False) σ:=rfl
theorem r_not {a:Ex}{Q:V→St→Prop}:wpE P (.not a) Q σ=wpE P a (fun v σ₁=>zK σ₁.mem v fun b=>Q (.bool (!b)) σ₁) σ:=rfl
theorem r_list {es:List Ex}{Q:V→St→Prop}:wpE P (.list es) Q σ=zj0 P es (fun vs σ₁=> ∀a,σ₁.mem a=none→Q (.obj a) {σ₁ with mem:=upd σ₁.mem a (.list vs)}) σ:=rfl
theorem r_tup {es:List Ex}{Q:V→St→Prop}:wpE P (.tup es) Q σ=zj0 P es (fun vs σ₁=>Q (.tup vs) σ₁) σ:=rfl
theorem r_cmp {a:Ex}{ops:List CmpOp}{es:List Ex}{Q:V→St→Prop}:wpE P (.cmp a ops es) Q σ=wpE P a (fun v σ₁=>zsm P ops es v (fun b σ₂=>Q (.bool b) σ₂) σ₁) σ:=rfl
theorem r_band {es:List Ex}{Q:V→St→Prop}:wpE P (.band es) Q σ=zwq P true es Q σ:=rfl
theorem r_bor {es:List Ex}{Q:V→St→Prop}:wpE P (.bor es) Q σ=zwq P false es Q σ:=rfl
theorem r_idx {a i:Ex}{Q:V→St→Prop}:wpE P (.idx a i) Q σ=wpE P a (fun v σ₁=>wpE P i (fun u σ₂=>zju σ₂.mem v u fun r=>Q r σ₂) σ₁) σ:=rfl
theorem r_slc {a lo hi st:Ex}{Q:V→St→Prop}:wpE P (.slc a lo hi st) Q σ=wpE P a (fun v σ₁=>wpE P lo (fun l σ₂=>wpE P hi (fun h σ₃=>wpE P st (fun s σ₄=>zoo σ₄.mem v l h s fun r m=>Q r {σ₄ with mem:=m}) σ₃) σ₂) σ₁) σ:=rfl
theorem r_attr {o:Ex}{n:String}{Q:V→St→Prop}:wpE P (.attr o n) Q σ=wpE P o (fun v σ₁=>ziy P σ₁.mem v n fun r=>Q r σ₁) σ:=rfl
theorem r_bi {b:Bi}{args:List Ex}{Q:V→St→Prop}:wpE P (.bi b args) Q σ=zj0 P args (fun vs σ₁=>zr3 σ₁.mem b vs fun r m=>Q r {σ₁ with mem:=m}) σ:=rfl
theorem r_call {f:String}{args:List Ex}{Q:V→St→Prop}:wpE P (.call f args) Q σ=zj0 P args (fun vs σ₁=>P.call f vs (fun r m=>Q r {σ₁ with mem:=m}) σ₁.mem) σ:=rfl
theorem r_me {o:Ex}{m:Me}{args:List Ex}{Q:V→St→Prop}:wpE P (.me o m args) Q σ=wpE P o (fun v σ₁=>zwy σ₁.mem v m∧zj0 P args (fun vs σ₂=>zt4 σ₂.mem v m vs fun r m'=>Q r {σ₂ with mem:=m'}) σ₁) σ:=rfl
theorem r_imeth {o:Ex}{n:String}{args:List Ex}{Q:V→St→Prop}:wpE P (.imeth o n args) Q σ=wpE P o (fun v σ₁=>(∃a d fs,v= .obj a∧σ₁.mem a=some (.inst P.cls d)∧σ₁.mem d=some (.dict fs)∧yT n fs=none)∧zj0 P args (fun vs σ₂=>P.meth n (v::vs) (fun r m=>Q r {σ₂ with mem:=m}) σ₂.mem) σ₁) σ:=rfl
theorem r_comp {elt:Ex}{one:Bool}{is:List Nat}{it:Ex}{cs:List Ex}{n:Nat}{caps:List Nat}{Q:V→St→Prop}:wpE P (.comp elt one is it cs n caps) Q σ=wpE P it (fun v σ₁=>yG σ₁.mem v fun vs g=>sma vs.length∧zc5 (yC one is) (zjy P true cs) (wpE P elt) g (fun us σ'=> ∀a,σ'.mem a=none→Q (.obj a) {σ₁ with mem:=upd σ'.mem a (.list us)}) vs [] (zeh σ₁ n caps)) σ:=rfl
theorem r_comp2 {elt:Ex}{one:Bool}{is:List Nat}{it iti:Ex}{j n:Nat}{caps:List Nat}{Q:V→St→Prop}:wpE P (.comp2 elt one is it iti j n caps) Q σ=wpE P it (fun v σ₁=>yG σ₁.mem v fun vs g=>sma vs.length∧zek (yC one is) (wpE P iti) (yC true [j]) (fun k σ=>k true σ) (wpE P elt) g (fun us σ'=> ∀a,σ'.mem a=none→Q (.obj a) {σ₁ with mem:=upd σ'.mem a (.list us)}) vs [] (zeh σ₁ n caps)) σ:=rfl
theorem r_es0 {Q:List V→St→Prop}:zj0 P [] Q σ=Q [] σ:=rfl
theorem r_es1 {e:Ex}{es:List Ex}{Q:List V→St→Prop}:zj0 P (e::es) Q σ=wpE P e (fun v σ₁=>zj0 P es (fun vs σ₂=>Q (v::vs) σ₂) σ₁) σ:=rfl
theorem r_ch1 {op:CmpOp}{e:Ex}{v:V}{Q:Bool→St→Prop}:zsm P [op] [e] v Q σ=wpE P e (fun u σ₁=>zck σ₁.mem op v u fun b=>Q b σ₁) σ:=rfl
theorem r_ch2 {op op':CmpOp}{e:Ex}{ops:List CmpOp}{es:List Ex}{v:V}{Q:Bool→St→Prop}:zsm P (op::op'::ops) (e::es) v Q σ=wpE P e (fun u σ₁=>zck σ₁.mem op v u fun b=>if b then zsm P (op'::ops) es u Q σ₁ else Q false σ₁) σ:=rfl
theorem r_ite {c a b:Ex}{Q:V→St→Prop}:wpE P (.ite c a b) Q σ=wpT P c (wpE P c) (fun t σ₁=>if t then wpE P a Q σ₁ else wpE P b Q σ₁) σ:=rfl
theorem r_bo1 {k:Bool}{e:Ex}{Q:V→St→Prop}:zwq P k [e] Q σ=wpE P e Q σ:=rfl
theorem r_bo2 {k:Bool}{e d:Ex}{es:List Ex}{Q:V→St→Prop}:zwq P k (e::d::es) Q σ=wpE P e (fun v σ₁=>zK σ₁.mem v fun b=>if b=k then zwq P k (d::es) Q σ₁ else Q v σ₁) σ:=rfl
theorem r_tnot {a:Ex}{w:(V→St→Prop)→St→Prop}{Q:Bool→St→Prop}:wpT P (.not a) w Q σ=wpT P a (wpE P a) (fun b σ₁=>Q (!b) σ₁) σ:=rfl
theorem r_tband {es:List Ex}{w:(V→St→Prop)→St→Prop}{Q:Bool→St→Prop}:wpT P (.band es) w Q σ=zjy P true es Q σ:=rfl
theorem r_tbor {es:List Ex}{w:(V→St→Prop)→St→Prop}{Q:Bool→St→Prop}:wpT P (.bor es) w Q σ=zjy P false es Q σ:=rfl
theorem r_tcmp {a:Ex}{ops:List CmpOp}{es:List Ex}{w:(V→St→Prop)→St→Prop}{Q:Bool→St→Prop}:wpT P (.cmp a ops es) w Q σ=wpE P a (fun v σ₁=>zsm P ops es v Q σ₁) σ:=rfl
theorem r_tvar {i:Nat}{w:(V→St→Prop)→St→Prop}{Q:Bool→St→Prop}:wpT P (.var i) w Q σ=w (fun v σ₁=>zK σ₁.mem v fun b=>Q b σ₁) σ:=rfl
theorem r_tcall {f:String}{args:List Ex}{w:(V→St→Prop)→St→Prop}{Q:Bool→St→Prop}:wpT P (.call f args) w Q σ=w (fun v σ₁=>zK σ₁.mem v fun b=>Q b σ₁) σ:=rfl
theorem r_tme {o:Ex}{m:Me}{args:List Ex}{w:(V→St→Prop)→St→Prop}{Q:Bool→St→Prop}:wpT P (.me o m args) w Q σ=w (fun v σ₁=>zK σ₁.mem v fun b=>Q b σ₁) σ:=rfl
theorem r_tidx {a i:Ex}{w:(V→St→Prop)→St→Prop}{Q:Bool→St→Prop}:wpT P (.idx a i) w Q σ=w (fun v σ₁=>zK σ₁.mem v fun b=>Q b σ₁) σ:=rfl
theorem r_tbi {b:Bi}{args:List Ex}{w:(V→St→Prop)→St→Prop}{Q:Bool→St→Prop}:wpT P (.bi b args) w Q σ=w (fun v σ₁=>zK σ₁.mem v fun b=>Q b σ₁) σ:=rfl
theorem r_ts0 {k:Bool}{Q:Bool→St→Prop}:zjy P k [] Q σ=Q k σ:=rfl
theorem r_ts1 {k:Bool}{e:Ex}{es:List Ex}{Q:Bool→St→Prop}:zjy P k (e::es) Q σ=wpT P e (wpE P e) (fun b σ₁=>if b=k then zjy P k es Q σ₁ else Q (!k) σ₁) σ:=rfl
theorem r_tgs0 {v:V}{Q:St→Prop}:zh0 P [] v Q σ=Q σ:=rfl
theorem r_tgs1 {t:Tg}{ts:List Tg}{v:V}{Q:St→Prop}:zh0 P (t::ts) v Q σ=zkp P t v (fun σ₁=>zh0 P ts v Q σ₁) σ:=rfl
theorem r_sexpr {e:Ex}{Q:Fl→St→Prop}:wpS P (.expr e) Q σ=wpE P e (fun _ σ₁=>Q .next σ₁) σ:=rfl
theorem r_sassign {ts:List Tg}{e:Ex}{Q:Fl→St→Prop}:wpS P (.assign ts e) Q σ=wpE P e (fun v σ₁=>zh0 P ts v (fun σ₂=>Q .next σ₂) σ₁) σ:=rfl
theorem r_saug {i:Nat}{op:Operator}{e:Ex}{Q:Fl→St→Prop}:wpS P (.aug i op e) Q σ=(match σ.loc[i]? with | some (some v)=>wpE P e (fun u σ₁=>zr0 σ₁.mem op v u fun r=>Q .next (σ₁.set i r)) σ | _=>False):=rfl
theorem r_sdel {o i:Ex}{Q:Fl→St→Prop}:wpS P (.del o i) Q σ=wpE P o (fun ov σ₁=>wpE P i (fun iv σ₂=> ∃a k vs j,ov= .obj a∧iv= .int k∧tiny k∧σ₂.mem a=some (.list vs)∧zpz vs.length k=some j∧sma vs.length∧Q .next {σ₂ with mem:=upd σ₂.mem a (.list (vs.eraseIdx j))}) σ₁) σ:=rfl
theorem r_sife {c:Ex}{a b:List Sm}{Q:Fl→St→Prop}:wpS P (.ife c a b) Q σ=wpT P c (wpE P c) (fun t σ₁=>if t then zs P a Q σ₁ else zs P b Q σ₁) σ:=rfl
theorem r_swhl {c:Ex}{b:List Sm}{Q:Fl→St→Prop}:wpS P (.whl c b) Q σ=zuh (wpT P c (wpE P c)) (zs P b) Q σ:=rfl
theorem r_sfr {t:Tg}{it:Ex}{b:List Sm}{Q:Fl→St→Prop}:wpS P (.fr t it b) Q σ=wpE P it (fun v σ₁=>yG σ₁.mem v fun vs g=>zem (zkp P t) (zs P b) g Q vs σ₁) σ:=rfl
theorem r_sret {e:Ex}{Q:Fl→St→Prop}:wpS P (.ret e) Q σ=wpE P e (fun v σ₁=>Q (.ret v) σ₁) σ:=rfl
theorem r_ss0 {Q:Fl→St→Prop}:zs P [] Q σ=Q .next σ:=rfl
theorem r_ss1 {s:Sm}{ss:List Sm}{Q:Fl→St→Prop}:zs P (s::ss) Q σ=wpS P s (fun fl σ₁=>match fl with | .next=>zs P ss Q σ₁ | .brk=>Q .brk σ₁ | .cont=>Q .cont σ₁ | .ret r=>Q (.ret r) σ₁) σ:=rfl
theorem bin_add {a b:Int}{Q:V→Mem→Prop}:zik m .Add (.int a) (.int b) Q=Q (.int (a+b)) m:=rfl
theorem bin_sub {a b:Int}{Q:V→Mem→Prop}:zik m .Sub (.int a) (.int b) Q=Q (.int (a-b)) m:=rfl
theorem bin_mul {a b:Int}{Q:V→Mem→Prop}:zik m .Mult (.int a) (.int b) Q=(tiny a∧Q (.int (a * b)) m):=rfl
theorem bin_div {a b:Int}{Q:V→Mem→Prop}:zik m .FloorDiv (.int a) (.int b) Q=(0<b∧tiny b∧Q (.int (a/b)) m):=rfl
theorem bin_mod {a b:Int}{Q:V→Mem→Prop}:zik m .Mod (.int a) (.int b) Q=(0<b∧Q (.int (a%b)) m):=rfl
theorem bin_cat {a b:Tx}{Q:V→Mem→Prop}:zik m .Add (.str a) (.str b) Q=(sma a.length∧sma b.length∧Q (.str (a++b)) m):=rfl
theorem zsq {a:Addr}{k:Int}{Q:V→Mem→Prop}:zik m .Mult (.obj a) (.int k) Q=(∃x,m a=some (.list [x])∧tiny k∧sma k.toNat∧∀c,m c=none→Q (.obj c) (upd m c (.list (List.replicate k.toNat x)))):=rfl
theorem cmp_eqi {a b:Int}{Q:Bool→Prop}:zck m .Eq (.int a) (.int b) Q=Q (decide (a=b)):=rfl
theorem cmp_eqs {a b:Tx}{Q:Bool→Prop}:zck m .Eq (.str a) (.str b) Q=Q (decide (a=b)):=rfl
theorem cmp_nei {a b:Int}{Q:Bool→Prop}:zck m .NotEq (.int a) (.int b) Q=Q (!decide (a=b)):=rfl
theorem cmp_nes {a b:Tx}{Q:Bool→Prop}:zck m .NotEq (.str a) (.str b) Q=Q (!decide (a=b)):=rfl
theorem cmp_lt {a b:Int}{Q:Bool→Prop}:zck m .Lt (.int a) (.int b) Q=Q (decide (a<b)):=rfl
theorem cmp_le {a b:Int}{Q:Bool→Prop}:zck m .LtE (.int a) (.int b) Q=Q (decide (a≤b)):=rfl
theorem cmp_gt {a b:Int}{Q:Bool→Prop}:zck m .Gt (.int a) (.int b) Q=Q (decide (b<a)):=rfl
theorem cmp_ge {a b:Int}{Q:Bool→Prop}:zck m .GtE (.int a) (.int b) Q=Q (decide (b≤a)):=rfl
theorem cmp_isn {Q:Bool→Prop}:zck m .Is .none .none Q=Q true:=rfl
theorem cmp_ist {vs:List V}{Q:Bool→Prop}:zck m .Is (.tup vs) .none Q=Q false:=rfl
theorem cmp_notn {Q:Bool→Prop}:zck m .IsNot .none .none Q=Q false:=rfl
theorem cmp_nott {vs:List V}{Q:Bool→Prop}:zck m .IsNot (.tup vs) .none Q=Q true:=rfl
theorem z3o {a b:Addr}{Q:Bool→Prop}:zck m .Eq (.obj a) (.obj b) Q= ∃d e,rd 8 m (.obj a)=some d∧rd 8 m (.obj b)=some e∧Q (PyData.eqv d e):=rfl
theorem z7w {a b:Addr}{Q:Bool→Prop}:zck m .NotEq (.obj a) (.obj b) Q= ∃d e,rd 8 m (.obj a)=some d∧rd 8 m (.obj b)=some e∧Q (!PyData.eqv d e):=rfl
theorem tr_none {Q:Bool→Prop}:zK m .none Q=Q false:=rfl
theorem tr_bool {b:Bool}{Q:Bool→Prop}:zK m (.bool b) Q=Q b:=rfl
theorem tr_int {i:Int}{Q:Bool→Prop}:zK m (.int i) Q=Q (i !=0):=rfl
theorem tr_str {x:Tx}{Q:Bool→Prop}:zK m (.str x) Q=(sma x.length∧Q (!x.isEmpty)):=rfl
theorem tr_tup {vs:List V}{Q:Bool→Prop}:zK m (.tup vs) Q=(sma vs.length∧Q (!vs.isEmpty)):=rfl
theorem ix_str {x:Tx}{i:Int}{Q:V→Prop}:zju m (.str x) (.int i) Q=(tiny i∧∃c,zH x i=some c∧Q (.str [c])):=rfl
theorem ix_tup {vs:List V}{i:Int}{Q:V→Prop}:zju m (.tup vs) (.int i) Q=(tiny i∧∃v,zH vs i=some v∧Q v):=rfl
theorem zrc {a:Addr}{i:Int}{Q:V→Prop}:zju m (.obj a) (.int i) Q=(tiny i∧∃vs v,m a=some (.list vs)∧zH vs i=some v∧Q v):=rfl
theorem sl_ii {x:Tx}{a b:Int}{Q:V→Mem→Prop}:zoo m (.str x) (.int a) (.int b) .none Q=(sma x.length∧Q (.str (zcq x (some a) (some b))) m):=rfl
theorem sl_in {x:Tx}{a:Int}{Q:V→Mem→Prop}:zoo m (.str x) (.int a) .none .none Q=(sma x.length∧Q (.str (zcq x (some a) none)) m):=rfl
theorem sl_ni {x:Tx}{b:Int}{Q:V→Mem→Prop}:zoo m (.str x) .none (.int b) .none Q=(sma x.length∧Q (.str (zcq x none (some b))) m):=rfl
theorem z4k {l:Addr}{b:Int}{Q:V→Mem→Prop}:zoo m (.obj l) .none (.int b) .none Q=(∃vs,(m l=some (.list vs)∨∃o,m l=some (.ro o vs))∧sma vs.length∧∀c,m c=none→Q (.obj c) (upd m c (.list (zcq vs none (some b))))):=rfl
theorem bi_lens {x:Tx}{Q:V→Mem→Prop}:zr3 m .len [.str x] Q=(sma x.length∧Q (.int x.length) m):=rfl
theorem bi_lent {vs:List V}{Q:V→Mem→Prop}:zr3 m .len [.tup vs] Q=(sma vs.length∧Q (.int vs.length) m):=rfl
theorem zst {a:Addr}{Q:V→Mem→Prop}:zr3 m .len [.obj a] Q=(∃vs,(m a=some (.list vs)∨∃o,m a=some (.ro o vs))∧sma vs.length∧Q (.int vs.length) m):=rfl
theorem bi_min {a b:Int}{Q:V→Mem→Prop}:zr3 m .min [.int a,.int b] Q=Q (.int (if b<a then b else a)) m:=rfl
theorem bi_max {a b:Int}{Q:V→Mem→Prop}:zr3 m .max [.int a,.int b] Q=Q (.int (if a<b then b else a)) m:=rfl
theorem zu8 {a:Addr}{Q:V→Mem→Prop}:zr3 m .max [.obj a] Q=(∃ns:List Int,m a=some (.list (ns.map V.int))∧0<ns.length∧∀M:Int,M∈ns→(∀a,a∈ns→a≤M)→Q (.int M) m):=rfl
theorem bi_rng {a:Int}{Q:V→Mem→Prop}:zr3 m .range [.int a] Q=(tiny a∧Q (.rng 0 a 1) m):=rfl
theorem bi_rng2 {a b:Int}{Q:V→Mem→Prop}:zr3 m .range [.int a,.int b] Q=(tiny a∧tiny b∧Q (.rng a b 1) m):=rfl
theorem me_find {x t:Tx}{Q:V→Mem→Prop}:zt4 m (.str x) .find [.str t] Q=(sma x.length∧sma t.length∧∀r,zgd x t 0 r→Q (.int r) m):=rfl
theorem me_find2 {x t:Tx}{i:Int}{Q:V→Mem→Prop}:zt4 m (.str x) .find [.str t,.int i] Q=(sma x.length∧sma t.length∧0≤i∧∀r,zgd x t i.toNat r→Q (.int r) m):=rfl
theorem me_app {a:Addr}{v:V}{Q:V→Mem→Prop}:zt4 m (.obj a) .append [v] Q=(∃vs,m a=some (.list vs)∧sma vs.length∧Q .none (upd m a (.list (vs++[v])))):=rfl
theorem ok_find {x:Tx}:zwy m (.str x) .find=True:=rfl
theorem ok_app {a:Addr}:zwy m (.obj a) .append= ∃l,m a=some (.list l):=rfl
theorem aug_addi {a b:Int}{Q:V→Prop}:zr0 m .Add (.int a) (.int b) Q=Q (.int (a+b)):=rfl
theorem aug_adds {a b:Tx}{Q:V→Prop}:zr0 m .Add (.str a) (.str b) Q=(sma a.length∧sma b.length∧Q (.str (a++b))):=rfl
theorem aug_subi {a b:Int}{Q:V→Prop}:zr0 m .Sub (.int a) (.int b) Q=Q (.int (a-b)):=rfl
theorem tg_idx {o i:Ex}{v:V}{Q:St→Prop}:zkp P (.idx o i) v Q σ=wpE P o (fun ov σ₁=>wpE P i (fun iv σ₂=> ∃a k vs j,ov= .obj a∧iv= .int k∧tiny k∧σ₂.mem a=some (.list vs)∧zpz vs.length k=some j∧Q {σ₂ with mem:=upd σ₂.mem a (.list (vs.set j v))}) σ₁) σ:=rfl
theorem tg_slc {o lo hi:Ex}{v:V}{Q:St→Prop}:zkp P (.slc o lo hi) v Q σ=wpE P o (fun ov σ₁=>wpE P lo (fun l σ₂=>wpE P hi (fun h σ₃=> ∃a b ia ib xs ys,ov= .obj a∧v= .obj b∧zf8 l=some ia∧zf8 h=some ib∧a≠b∧
   σ₃.mem a=some (.list xs)∧σ₃.mem b=some (.list ys)∧sma xs.length∧sma ys.length∧
   Q {σ₃ with mem:=upd σ₃.mem a (.list (xs.take (zfp xs.length ia)++ys++xs.drop (max (zfp xs.length ia) (zh3 xs.length ib))))}) σ₂) σ₁) σ:=rfl
theorem tg_tup {is:List Nat}{vs:List V}{Q:St→Prop}:zkp P (.tup is) (.tup vs) Q σ=(vs.length=is.length∧Q (σ.setAll is vs)):=rfl
theorem tg_var {i:Nat}{v:V}{Q:St→Prop}:zkp P (.var i) v Q σ=Q (σ.set i v):=rfl
theorem it_str {x:Tx}{K:List V→(Mem→Prop)→Prop}:yG m (.str x) K=(sma x.length∧K (x.map fun c=> .str [c]) fun _=>True):=rfl
theorem it_rng {a b c:Int}{K:List V→(Mem→Prop)→Prop}:yG m (.rng a b c) K=(tiny a∧tiny b∧tiny c∧0<c∧K (zs4 a b c) fun _=>True):=rfl
theorem z9h {a:Addr}{K:List V→(Mem→Prop)→Prop}:yG m (.obj a) K=(∃vs,m a=some (.list vs)∧sma vs.length∧K vs fun m'=>m' a=some (.list vs)):=rfl
theorem neg_int {i:Int}{Q:V→St→Prop}:(match V.int i with | .int i=>Q (.int (-i)) σ | _=>False)=Q (.int (-i)) σ:=rfl
theorem me_ins {a:Addr}{k:Int}{v:V}{Q:V→Mem→Prop}:zt4 m (.obj a) .insert [.int k,v] Q=(0≤k∧tiny k∧∃vs,m a=some (.list vs)∧sma vs.length∧Q .none (upd m a (.list (vs.take k.toNat++v::vs.drop k.toNat)))):=rfl
theorem me_pop {a:Addr}{Q:V→Mem→Prop}:zt4 m (.obj a) .pop [] Q=([]=([]:List V)∧∃vs v,m a=some (.list (vs++[v]))∧sma vs.length∧Q v (upd m a (.list vs))):=rfl
theorem me_join {a:Addr}{Q:V→Mem→Prop}:zt4 m (.str []) .join [.obj a] Q=(([]:Tx)=[]∧∃xs:List Tx,m a=some (.list (xs.map V.str))∧xs.length≤500000∧xs.flatten.length≤500000∧Q (.str xs.flatten) m):=rfl
theorem me_ends {x y:Tx}{Q:V→Mem→Prop}:zt4 m (.str x) .endswith [.str y] Q=Q (.bool (decide (y.length≤x.length∧x.drop (x.length-y.length)=y))) m:=rfl
theorem me_starts {x y:Tx}{Q:V→Mem→Prop}:zt4 m (.str x) .startswith [.str y] Q=Q (.bool (decide (x.take y.length=y))) m:=rfl
theorem ok_ins {a:Addr}:zwy m (.obj a) .insert= ∃l,m a=some (.list l):=rfl
theorem ok_pop {a:Addr}:zwy m (.obj a) .pop= ∃l,m a=some (.list l):=rfl
theorem ok_join {x:Tx}:zwy m (.str x) .join=True:=rfl
theorem ok_ends {x:Tx}:zwy m (.str x) .endswith=True:=rfl
theorem ok_starts {x:Tx}:zwy m (.str x) .startswith=True:=rfl
theorem ssx {s:Sm}{ss:List Sm}{Q:Fl→St→Prop} (h: ∀Q':Fl→St→Prop,(∀σ',zs P ss Q σ'→Q' .next σ')→wpS P s Q' σ):zs P (s::ss) Q σ:=h _ fun _ q=>q
theorem za {s:Sm}{ss:List Sm}{Q:Fl→St→Prop} (h: ∀Q':Fl→St→Prop,(∀σ',zs P ss Q σ'→Q' .next σ')→(∀v σ',Q (.ret v) σ'→Q' (.ret v) σ')→wpS P s Q' σ):zs P (s::ss) Q σ:=h _ (fun _ q=>q) fun _ _ q=>q
theorem zd {Q:Fl→St→Prop} (h:Q .next σ):zs P [] Q σ:=h
theorem zi {c:Ex}{a b:List Sm}{Q:Fl→St→Prop} (h: ∀K:Bool→St→Prop,(∀σ',zs P a Q σ'→K true σ')→(∀σ',zs P b Q σ'→K false σ')→wpT P c (wpE P c) K σ):wpS P (.ife c a b) Q σ:=
 h _ (fun _ q=>q) fun _ q=>q
theorem yV {p:Prop} [Decidable p] {X Y:Prop} (hp:p) (x:X):if decide p=true then X else Y:=by rw[if_pos (decide_eq_true hp)];exact x
theorem zb6 {p:Prop} [Decidable p] {X Y:Prop} (hp: ¬p) (y:Y):if decide p=true then X else Y:=by rw[if_neg (by simpa using hp)];exact y
theorem zct {p:Prop} [Decidable p] {X Y:Prop} (hp:p) (y:Y):if (!decide p)=true then X else Y:=by rw[if_neg (by simpa using hp)];exact y
theorem zef {p:Prop} [Decidable p] {X Y:Prop} (hp: ¬p) (x:X):if (!decide p)=true then X else Y:=by rw[if_pos (by simpa using hp)];exact x
end
theorem tiny_n {k:Nat} (h:k≤1000000):tiny (k:Int):=⟨Int.lt_of_lt_of_le (by decide) (Int.natCast_nonneg k),Int.lt_of_le_of_lt (Int.ofNat_le.mpr h) (by decide)⟩
end Mine.Internal
local macro_rules
 | `(tactic| walk_at $s)=>do
  let t:=s.getString
  if t=="t" then return ←`(tactic| first | (unfold Mine.Internal.tiny;decide) | exact Mine.Internal.tiny_n (by lia) | (unfold Mine.Internal.tiny;first | lia | grind))
  if t !="D"&&t !="E" then Lean.Macro.throwUnsupported
  let l:=("r_lit r_var r_bin r_neg r_not r_list r_tup r_cmp r_band r_bor r_idx r_slc r_attr r_bi r_call r_me r_imeth r_ite r_ch2 r_es0 r_es1 r_ch1 r_bo1 r_bo2 r_tnot r_tband r_tbor r_tcmp r_tvar r_tcall r_tme r_tidx r_tbi r_ts0 r_ts1 r_tgs0 r_tgs1 r_sexpr r_sassign r_saug r_sdel r_sife r_swhl r_sfr r_sret r_ss0 r_ss1 tg_var tg_tup tg_idx tg_slc bin_add bin_sub bin_mul bin_div bin_mod bin_cat cmp_eqi cmp_eqs cmp_nei cmp_nes cmp_lt cmp_le cmp_gt cmp_ge cmp_isn cmp_ist cmp_notn cmp_nott tr_none tr_bool tr_int tr_str tr_tup ix_str ix_tup sl_ii sl_in sl_ni bi_lens bi_lent bi_min bi_max bi_rng bi_rng2 me_find me_find2 ok_find me_app ok_app me_ins me_pop me_join me_ends me_starts ok_ins ok_pop ok_join ok_ends ok_starts it_str it_rng neg_int aug_addi aug_adds aug_subi St.set St.setAll List.map_cons List.map_nil List.replicate List.cons_append List.nil_append List.getElem?_cons_succ List.getElem?_cons_zero List.set_cons_succ List.set_cons_zero List.length_cons List.length_nil dreduceIte retV"++(if t=="D" then " r_comp r_comp2" else "")).splitOn " "
  let l:Lean.Syntax.TSepArray `Lean.Parser.Tactic.simpLemma ",":= .ofElems (l.toArray.map fun s=>⟨.node .none `Lean.Parser.Tactic.simpLemma #[Lean.mkNullNode,Lean.mkNullNode,Lean.mkIdent s.toName]⟩)
  `(tactic| dsimp only[$l,*])

namespace Mine.Internal
noncomputable def lcp:Tx→Tx→Nat
 | a::as,b::bs=>if a=b then lcp as bs+1 else 0
 | _,_=>0
theorem zV: ∀(a b:Tx),lcp a b≤a.length∧lcp a b≤b.length
 | [],_=>by simp[lcp]
 | _::_,[]=>by simp[lcp]
 | a::as,b::bs=>by
  unfold lcp
  have:=zV as bs
  split<;>simp<;>omega
theorem yU: ∀(k:Nat) (a b:Tx),k≤a.length→k≤b.length→(k≤lcp a b↔a.take k=b.take k)
 | 0,_,_,_,_=>by simp
 | k+1,[],_,h,_=>by simp at h
 | k+1,_::_,[],_,h=>by simp at h
 | k+1,a::as,b::bs,h1,h2=>by
  unfold lcp
  have ih:=yU k as bs (by simpa using h1) (by simpa using h2)
  by_cases e:a=b
  ·subst e;simp[ih]
  ·simp[e]
noncomputable def lcs (a b:Tx):Nat:=lcp a.reverse b.reverse
theorem zcg (a b:Tx):lcs a b≤a.length∧lcs a b≤b.length:=by
 have:=zV a.reverse b.reverse
 simpa [lcs] using this
abbrev zG:=Int×Tx
abbrev Row:=List zG
noncomputable def cnt (k:Int) (r:Row):Nat:=(r.filter fun p=>decide (p.1=k)).length
noncomputable def cat (k:Int) (r:Row):Tx:=((r.filter fun p=>decide (p.1=k)).map (·.2)).flatten
noncomputable def phi (r:Row):Nat:=(r.map fun p=>p.2.length+1).sum
noncomputable def zS:Row→Tx→Row
 | [],x=>[(0,x)]
 | [(k,u)],x=>[(k,u++x)]
 | a::b::r,x=>a::zS (b::r) x
theorem zt (dn:Row) (k:Int) (u x:Tx):zS (dn++[(k,u)]) x=dn++[(k,u++x)]:=by
 induction dn with
 | nil=>rfl
 | cons a dn ih=>
  cases dn with
  | nil=>rfl
  | cons b dn=>exact congrArg (a::·) ih
theorem zcn:phi []=0:=rfl
theorem zh (p:zG) (r:Row):phi (p::r)=p.2.length+1+phi r:=by rfl
theorem pha (a b:Row):phi (a++b)=phi a+phi b:=by simp[phi]
theorem llp (r:Row):r.length≤phi r:=by
 induction r with
 | nil=>simp[phi]
 | cons p r ih=>rw[zh];simp;exact zf 5350178439252046053928 rfl ih
theorem zkl {r:Row}{p:zG} (h:p∈r):p.2.length<phi r:=by
 induction r with
 | nil=>cases h
 | cons q r ih=>
  rw[zh]
  rcases List.mem_cons.mp h with rfl | h
  ·exact zc 622775632441 rfl
  ·have:=ih h;exact zf 5224783602453643817 rfl this
theorem zc7 (k:Int) (a b:Row):cat k (a++b)=cat k a++cat k b:=by simp[cat]
theorem zcs (k:Int) (a b:Row):cnt k (a++b)=cnt k a+cnt k b:=by simp[cnt]
theorem zdi (k:Int) (p:zG):cat k [p]=if p.1=k then p.2 else[]:=by
 unfold cat;by_cases h:p.1=k<;>simp[h]
theorem zi2 (k:Int) (p:zG):cnt k [p]=if p.1=k then 1 else 0:=by
 unfold cnt;by_cases h:p.1=k<;>simp[h]
theorem zdn (k:Int) (p:zG) (r:Row):cat k (p::r)=(if p.1=k then p.2 else[])++cat k r:=by
 rw[←zdi,←zc7];rfl
theorem zli (k:Int) (p:zG) (r:Row):cnt k (p::r)=(if p.1=k then 1 else 0)+cnt k r:=by
 rw[←zi2,←zcs];rfl
noncomputable def Run (r:Row):Prop:= ∀p∈r,p.1=-1∨p.1=1
theorem zth {r:Row} (h:Run r):cnt (-1) r+cnt 1 r=r.length:=by
 induction r with
 | nil=>rfl
 | cons p r ih=>
  have:=ih fun q hq=>h q (List.mem_cons_of_mem _ hq)
  simp only[zli,zli,List.length_cons]
  rcases h p (List.mem_cons_self) with e | e<;>rw[e]<;>simp<;>grind
theorem zu7 (r:Row):(cat (-1) r).length+(cat 1 r).length+r.length≤phi r:=by
 induction r with
 | nil=>trivial
 | cons p r ih=>
  rw[zdn,zdn,zh]
  simp only[List.length_append,List.length_cons]
  by_cases h1:p.1=-1
  ·rw[if_pos h1,if_neg (by lia)];simp;exact za9 16658238410350718788483381266078540840 rfl ih
  ·rw[if_neg h1]
   by_cases h2:p.1=1
   ·rw[if_pos h2];simp;exact za9 16658238410350728230622273620003562536 rfl ih
   ·rw[if_neg h2];simp;exact za9 16267810947608123823485412305839144 rfl ih
structure Trim where
 done:Row
 td:Tx
 ti:Tx
 t:Tx
noncomputable def zM (q:Trim):Trim:=if lcp q.ti q.td=0 then q else⟨zS q.done (q.ti.take (lcp q.ti q.td)),q.td.drop (lcp q.ti q.td),q.ti.drop (lcp q.ti q.td),q.t⟩
noncomputable def ze2 (q:Trim):Trim:=if lcs q.ti q.td=0 then q else⟨q.done,q.td.take (q.td.length-lcs q.ti q.td),q.ti.take (q.ti.length-lcs q.ti q.td),q.ti.drop (q.ti.length-lcs q.ti q.td)++q.t⟩
noncomputable def zgn (q:Trim):Trim:=ze2 (zM q)
noncomputable def ops (td ti:Tx):Row:=(if td=[] then[] else[(-1,td)])++(if ti=[] then[] else[(1,ti)])
noncomputable def zb5 (done run:Row) (t:Tx):Trim:=
 if cnt (-1) run≠0∧cnt 1 run≠0 then zgn ⟨done,cat (-1) run,cat 1 run,t⟩ else⟨done,cat (-1) run,cat 1 run,t⟩
noncomputable def zqq (q:Trim):Row:=q.done++ops q.td q.ti++[(0,q.t)]
noncomputable def zr (done run:Row) (t:Tx):Row:=
 if 1<run.length then zqq (zb5 done run t)
 else if run=[]∧done≠[] then zS done t else done++run++[(0,t)]
noncomputable def zg:Row→Row→Row→Row
 | done,run,[]=>done++run
 | done,run,(k,t)::r=>if k=0 then zg (zr done run t) [] r else zg done (run++[(k,t)]) r
noncomputable def zbi (r:Row):Row:=zg [] [] (r++[(0,[])])
noncomputable def ze1:Row→Row
 | []=>[]
 | [p]=>if p.2=[] then[] else[p]
 | p::q::r=>p::ze1 (q::r)
theorem zdc (dn:Row) (p:zG):ze1 (dn++[p])=if p.2=[] then dn else dn++[p]:=by
 induction dn with
 | nil=>rfl
 | cons a dn ih=>
  cases dn with
  | nil=>show a::ze1 [p]=_;rw[ze1];split<;>rfl
  | cons b dn=>
   show a::ze1 (b::dn++[p])=_
   rw[ih];split<;>rfl
noncomputable def sgo:zG→Row→Row×Bool
 | a,b::c::C=>
  if a.1=0∧c.1=0 then
   if a.2.length≤b.2.length∧b.2.drop (b.2.length-a.2.length)=a.2 then((b.1,a.2++b.2.take (b.2.length-a.2.length))::(sgo (c.1,a.2++c.2) C).1,true)
   else if b.2.take c.2.length=c.2 then((a.1,a.2++c.2)::(sgo (b.1,b.2.drop c.2.length++c.2) C).1,true)
   else(a::(sgo b (c::C)).1,(sgo b (c::C)).2)
  else(a::(sgo b (c::C)).1,(sgo b (c::C)).2)
 | a,[b]=>([a,b],false)
 | a,[]=>([a],false)
noncomputable def zay:Row→Row×Bool
 | []=>([],false)
 | a::r=>sgo a r
noncomputable def zB:Nat→Row→Row
 | 0,r=>r
 | n+1,r=>if (zay (ze1 (zbi r))).2 then zB n (zay (ze1 (zbi r))).1 else(zay (ze1 (zbi r))).1
noncomputable def Dn (done:Row):Prop:=done=[]∨∃dn u,done=dn++[((0:Int),u)]
theorem zgp {done:Row} (h:Dn done) (x:Tx): ∃dn u,zS done x=dn++[((0:Int),u)]:=by
 rcases h with rfl | ⟨dn,u,rfl⟩
 ·exact⟨[],x,rfl⟩
 ·exact⟨dn,u++x,zt _ _ _ _⟩
theorem za0 {done run:Row} (h:Dn done) (t:Tx): ∃dn u,zr done run t=dn++[((0:Int),u)]:=by
 unfold zr
 split
 ·exact⟨_,_,rfl⟩
 ·split
  ·exact zgp h t
  ·exact⟨_,_,rfl⟩
theorem zfk {done:Row} (h:Dn done) (x:Tx):phi (zS done x)≤phi done+x.length+(if done=[] then 1 else 0):=by
 rcases h with rfl | ⟨dn,u,rfl⟩
 ·simp[zS,phi]
 ·rw[zt,pha,pha];simp[phi];exact zf 1289248713693791991632952 rfl
theorem z2k (td ti:Tx):phi (ops td ti)≤td.length+ti.length+2:=by
 unfold ops
 rw[pha]
 split<;>split<;>simp[phi]<;>grind
noncomputable def tw (q:Trim):Nat:=phi q.done+q.td.length+q.ti.length+q.t.length
theorem zvq (q:Trim) (h:Dn q.done):tw (zM q)≤tw q∧Dn (zM q).done:=by
 unfold zM
 split
 ·exact⟨Nat.le_refl _,h⟩
 ·rename_i hp
  have l:=zV q.ti q.td
  have w:=zfk h (q.ti.take (lcp q.ti q.td))
  refine⟨?_,.inr (zgp h _)⟩
  unfold tw
  dsimp only
  rw[List.length_take] at w
  rw[List.length_drop,List.length_drop]
  split at w
  ·grind
  ·exact z5a 1273277073502167151931780372137418927274121767937010498108214346280 rfl w (Nat.sub_add_cancel (zc 4952567644712 rfl l.2)) (Nat.sub_add_cancel (zc 4952567644712 rfl l.1)) (Nat.min_le_left _ _)
theorem zph (q:Trim):tw (ze2 q)≤tw q∧(ze2 q).done=q.done:=by
 unfold ze2
 split
 ·exact⟨Nat.le_refl _,rfl⟩
 ·have l:=zcg q.ti q.td
  refine⟨?_,rfl⟩
  unfold tw
  dsimp only
  rw[List.length_append,List.length_drop,List.length_take,List.length_take,Nat.min_eq_left (Nat.sub_le _ _),Nat.min_eq_left (Nat.sub_le _ _)]
  generalize lcs q.ti q.td=k at *
  generalize q.ti.length=i at *
  generalize q.td.length=j at *
  rw[Nat.sub_sub_self (by first | exact l.1 | exact l.2)]
  obtain⟨u,rfl⟩: ∃u,i=k+u:=⟨i-k,by exact Nat.le_antisymm (zf 5265838744531501611 rfl (Nat.sub_add_cancel (zc 4952567644712 rfl l.1))) (zf 9804662326409303082 rfl (Nat.sub_add_cancel (zc 4952567644712 rfl l.1)))⟩
  obtain⟨v,rfl⟩: ∃v,j=k+v:=⟨j-k,by exact Nat.le_antisymm (zf 5265838744531501611 rfl (Nat.sub_add_cancel (zc 4952567644712 rfl l.2))) (zf 9804662326409303082 rfl (Nat.sub_add_cancel (zc 4952567644712 rfl l.2)))⟩
  rw[Nat.add_sub_cancel_left,Nat.add_sub_cancel_left]
  clear l
  exact za9 2688178174203223237533191991796792 rfl
theorem zzw (q:Trim) (h:Dn q.done):tw (zgn q)≤tw q∧Dn (zgn q).done:=by
 obtain⟨a,b⟩:=zvq q h
 obtain⟨c,d⟩:=zph (zM q)
 exact⟨ntr c a,by unfold zgn;rw[d];exact b⟩
theorem zp5 (q:Trim):phi (zqq q)≤tw q+3:=by
 unfold zqq tw
 rw[pha,pha]
 have:=z2k q.td q.ti
 simp only[zh,zcn];exact za9 16905954145070207027518578368987145794880040 rfl this
theorem zgv {done run:Row} (h:Dn done) (t:Tx):phi (zr done run t)≤phi done+phi run+(t.length+1):=by
 unfold zr
 split
 ·rename_i hr
  have c:=zu7 run
  have e:=zp5 (zb5 done run t)
  have w:tw (zb5 done run t)≤phi done+(cat (-1) run).length+(cat 1 run).length+t.length:=by
   unfold zb5
   split
   ·exact(zzw _ h).1
   ·exact Nat.le_refl _
  exact zpr 3393635930618746962439741728531027568203331327283193823957033 rfl hr c e w
 ·split
  ·rename_i hr
   have w:=zfk h t
   rw[if_neg hr.2] at w
   exact zP 5035294440279685312017465896 rfl w
  ·rw[pha,pha];simp[phi]
noncomputable def zz8 (k:Int):Prop:=k=-1∨k=0∨k=1
noncomputable def zk (r:Row):Prop:= ∀q∈r,zz8 q.1
theorem zk.nil:zk []:=fun _ h=>by cases h
theorem zk.cons {p:zG}{r:Row} (h:zz8 p.1) (k:zk r):zk (p::r):=fun q hq=>by
 rcases List.mem_cons.mp hq with rfl | hq
 ·exact h
 ·exact k q hq
theorem zk.tail {p:zG}{r:Row} (k:zk (p::r)):zk r:=fun q hq=>k q (List.mem_cons_of_mem _ hq)
theorem zk.head {p:zG}{r:Row} (k:zk (p::r)):zz8 p.1:=k p List.mem_cons_self
theorem zk.append {a b:Row} (h:zk a) (k:zk b):zk (a++b):=fun q hq=>by
 rcases List.mem_append.mp hq with hq | hq
 ·exact h q hq
 ·exact k q hq
theorem zfw {done:Row} (h:zk done) (x:Tx):zk (zS done x):=by
 induction done with
 | nil=>exact .cons (.inr (.inl rfl)) .nil
 | cons a r ih=>
  cases r with
  | nil=>obtain⟨k,u⟩:=a;exact .cons (h.head) .nil
  | cons b r=>exact .cons h.head (ih h.tail)
theorem ztp (td ti:Tx):zk (ops td ti):=by
 unfold ops
 refine .append ?_ ?_
 ·split
  ·exact .nil
  ·exact .cons (.inl rfl) .nil
 ·split
  ·exact .nil
  ·exact .cons (.inr (.inr rfl)) .nil
theorem zrl {q:Trim} (h:zk q.done):zk (zgn q).done:=by
 unfold zgn
 rw[(zph _).2]
 unfold zM
 split
 ·exact h
 ·exact zfw h _
theorem zmj {done run:Row} (h:zk done) (hr:zk run) (t:Tx):zk (zr done run t):=by
 unfold zr
 split
 ·unfold zqq
  refine .append (.append ?_ (ztp _ _)) (.cons (.inr (.inl rfl)) .nil)
  unfold zb5
  split
  ·exact zrl h
  ·exact h
 ·split
  ·exact zfw h _
  ·exact(h.append hr).append (.cons (.inr (.inl rfl)) .nil)
theorem yP: ∀(todo done run:Row),zk done→zk run→zk todo→zk (zg done run todo)
 | [],done,run,h,hr,_=>h.append hr
 | (k,t)::r,done,run,h,hr,ht=>by
  unfold zg
  split
  ·exact yP r _ _ (zmj h hr t) .nil ht.tail
  ·exact yP r _ _ h (hr.append (.cons ht.head .nil)) ht.tail
theorem zc9: ∀(r:Row),zk r→zk (ze1 r)
 | [],_=> .nil
 | [p],h=>by unfold ze1;split<;>first | exact .nil | exact h
 | p::q::r,h=> .cons h.head (zc9 (q::r) h.tail)
theorem zbg: ∀(r:Row) (a:zG),zz8 a.1→zk r→zk (sgo a r).1
 | [],a,h,_=> .cons h .nil
 | [b],a,h,hr=> .cons h hr
 | b::c::C,a,h,hr=>by
  have hb:=hr.head
  have hc:=hr.tail.head
  have hC:=hr.tail.tail
  have i1:=zbg (c::C) b hb hr.tail
  simp only[sgo]
  split
  ·split
   ·exact .cons hb (zbg C _ hc hC)
   ·split
    ·exact .cons h (zbg C _ hb hC)
    ·exact .cons h i1
  ·exact .cons h i1
theorem zdq {r:Row} (h:zk r):zk (zay r).1:=by
 cases r with
 | nil=>exact .nil
 | cons a r=>exact zbg r a h.head h.tail
theorem zdj: ∀(r:Row) (a:zG),phi (sgo a r).1+(if (sgo a r).2 then 1 else 0)≤phi (a::r)
 | [],a=>by simp[sgo]
 | [b],a=>by simp[sgo]
 | b::c::C,a=>by
  have i1:=zdj (c::C) b
  simp only[sgo]
  split
  ·split
   ·rename_i h
    have i2:=zdj C (c.1,a.2++c.2)
    have z: ∀x:Bool,(if x=true then 1 else 0)≤1:=fun x=>by cases x<;>trivial
    have:=z (sgo (c.1,a.2++c.2) C).2
    simp only[zh,List.length_append,List.length_take,if_true] at i2 ⊢
    have h1:=h.1
    rw[Nat.min_eq_left (by exact zf 9575029436585002 rfl (Nat.sub_add_cancel (zc 4952567644712 rfl h.1)))];exact zlw 217628134467537417613382512033027179524742841569646878831048922152 rfl i2 (Nat.sub_add_cancel (zc 4952567644712 rfl h.1))
   ·split
    ·rename_i h
     have i2:=zdj C (b.1,b.2.drop c.2.length++c.2)
     have he:c.2.length≤b.2.length:=by
      have:=congrArg List.length h
      rw[List.length_take] at this;exact zf 78438641144798183979 rfl this (Nat.min_le_right _ _)
     simp only[zh,List.length_append,List.length_drop,if_true] at i2 ⊢
     exact zlw 217628134464472438223663832628568376157208103735635614705608299560 rfl i2 (Nat.sub_add_cancel (zc 4952567644712 rfl he))
    ·simp only[zh] at i1 ⊢;exact zk8 25335249311206566874812104115864735320975711601823323176 rfl i1
  ·simp only[zh] at i1 ⊢;grind
theorem zf2 (r:Row):phi (zay r).1+(if (zay r).2 then 1 else 0)≤phi r:=by
 cases r with
 | nil=>simp[zay]
 | cons a r=>exact zdj r a
theorem zfj (x:Tx): ∀(todo done run:Row),Dn done→∃done' run',Dn done'∧zg done run (todo++[(0,x)])=zr done' run' x∧phi done'+phi run'≤phi done+phi run+phi todo
 | [],done,run,hd=>⟨done,run,hd,by show zg done run [(0,x)]=_;rw[zg,if_pos rfl];simp[zg],by simp[zcn]⟩
 | (k,t)::r,done,run,hd=>by
  simp only[List.cons_append]
  by_cases hk:k=0
  ·obtain⟨d',r',a,b,c⟩:=zfj x r (zr done run t) [] (.inr (za0 hd t))
   refine⟨d',r',a,by rw[zg,if_pos hk];exact b,?_⟩
   have:=zgv (run:=run) hd t
   simp only[zcn] at c
   rw[zh];dsimp only;exact zlw 150049920078990660942748691129759505619810517281936424 rfl c this
  ·obtain⟨d',r',a,b,c⟩:=zfj x r done (run++[(k,t)]) hd
   refine⟨d',r',a,by rw[zg,if_neg hk];exact b,?_⟩
   rw[pha,zh,zcn] at c
   rw[zh];dsimp only at c ⊢;exact zk8 29304628927393002310500221461479117404905149480 rfl c
theorem zeu (x:Tx): ∀(todo done run:Row),Dn done→∃dn u,zg done run (todo++[(0,x)])=dn++[((0:Int),u)]
 | [],done,run,h=>by
  obtain⟨dn,u,e⟩:=za0 (run:=run) h x
  refine⟨dn,u,?_⟩
  show zg done run [(0,x)]=_
  rw[zg,if_pos rfl,e];simp[zg]
 | (k,t)::r,done,run,h=>by
  rw[List.cons_append]
  unfold zg
  split
  ·exact zeu x r _ _ (.inr (za0 h t))
  ·exact zeu x r _ _ h
theorem zvz {q:Trim} (hd:Dn q.done) (ht:q.t=[]):(zgn q).t=[]∨phi (zgn q).done+(zgn q).td.length+(zgn q).ti.length+(zgn q).t.length+1≤phi q.done+q.td.length+q.ti.length:=by
 have e:(zM q).t=[]:=by unfold zM;split<;>exact ht
 have w:=(zvq q hd).1
 unfold tw at w
 rw[e,ht] at w
 unfold zgn
 generalize zM q=p at *
 have l:=zcg p.ti p.td
 unfold ze2
 by_cases hz:lcs p.ti p.td=0
 ·rw[if_pos hz];exact .inl e
 ·rw[if_neg hz];right
  dsimp only
  rw[List.length_append,List.length_drop,List.length_take,List.length_take,e,Nat.min_eq_left (Nat.sub_le _ _),Nat.min_eq_left (Nat.sub_le _ _)]
  refine ntr ?_ w
  generalize lcs p.ti p.td=k at *
  generalize p.ti.length=i at *
  generalize p.td.length=j at *
  rw[Nat.sub_sub_self (by first | exact l.1 | exact l.2)]
  obtain⟨u,rfl⟩: ∃u,i=k+u:=⟨i-k,by exact Nat.le_antisymm (zf 5265838744531501611 rfl (Nat.sub_add_cancel (zc 4952567644712 rfl l.1))) (zf 9804662326409303082 rfl (Nat.sub_add_cancel (zc 4952567644712 rfl l.1)))⟩
  obtain⟨v,rfl⟩: ∃v,j=k+v:=⟨j-k,by exact Nat.le_antisymm (zf 5265838744531501611 rfl (Nat.sub_add_cancel (zc 4952567644712 rfl l.2))) (zf 9804662326409303082 rfl (Nat.sub_add_cancel (zc 4952567644712 rfl l.2)))⟩
  rw[Nat.add_sub_cancel_left,Nat.add_sub_cancel_left]
  clear l w
  show phi p.done+v+u+(k+0)+1≤phi p.done+(k+v)+(k+u)+0
  lia
theorem zn0 {done run:Row} (hd:Dn done):(∃dn,zr done run []=dn++[((0:Int),([]:Tx))])∨phi (zr done run [])≤phi done+phi run:=by
 unfold zr
 by_cases hr:1<run.length
 ·rw[if_pos hr]
  have c:=zu7 run
  unfold zb5
  by_cases hb:cnt (-1) run≠0∧cnt 1 run≠0
  ·rw[if_pos hb]
   rcases zvz (q:=⟨done,cat (-1) run,cat 1 run,[]⟩) hd rfl with h | h
   ·left;exact⟨_,by unfold zqq;rw[h]⟩
   ·right
    have e:=zp5 (zgn ⟨done,cat (-1) run,cat 1 run,[]⟩)
    unfold tw at e
    dsimp only at h
    exact zn7 726432276796432218632763541106471326243355233979114487190962531580416322768937 rfl hr c h e
  ·rw[if_neg hb];left;exact⟨_,rfl⟩
 ·rw[if_neg hr]
  by_cases h:run=[]∧done≠[]
  ·rw[if_pos h]
   right
   have w:=zfk hd []
   rw[if_neg h.2] at w
   simp at w;exact zf 9610835903709736 rfl w
  ·rw[if_neg h];left;exact⟨_,rfl⟩
theorem zgh (r:Row):phi (ze1 (zbi r))≤phi r:=by
 unfold zbi
 obtain⟨d',r',a,b,c⟩:=zfj [] r [] [] (.inl rfl)
 rw[b]
 have hp:=zgv (run:=r') a []
 simp only[zcn] at c
 rcases zn0 (run:=r') a with ⟨dn,h⟩ | h
 ·rw[h,zdc,if_pos rfl]
  rw[h,pha,zh,zcn] at hp
  simp only[List.length_nil] at hp
  exact zP 98172764097837863019363767811870087663495681064 rfl c hp
 ·obtain⟨dn,u,e⟩:=za0 (run:=r') a []
  rw[e] at h ⊢
  rw[zdc]
  rw[pha,zh,zcn] at h
  split
  ·exact za9 93624844344780980363320683216043512435752 rfl c h
  ·rw[pha,zh,zcn];exact za9 99385058617068115592686845656509067708191780377640 rfl c h
noncomputable def NE (r:Row):Prop:= ∀p∈r,p.2≠[]
noncomputable def ne (r:Row):Row:=r.filter fun p=>decide (p.2≠[])
theorem NE.nil:NE []:=fun _ h=>by cases h
theorem NE.cons {p:zG}{r:Row} (h:p.2≠[]) (k:NE r):NE (p::r):=fun q hq=>by
 rcases List.mem_cons.mp hq with rfl | hq
 ·exact h
 ·exact k q hq
theorem NE.tail {p:zG}{r:Row} (k:NE (p::r)):NE r:=fun q hq=>k q (List.mem_cons_of_mem _ hq)
theorem NE.head {p:zG}{r:Row} (k:NE (p::r)):p.2≠[]:=k p List.mem_cons_self
theorem NE.append {a b:Row} (h:NE a) (k:NE b):NE (a++b):=fun q hq=>by
 rcases List.mem_append.mp hq with hq | hq
 ·exact h q hq
 ·exact k q hq
theorem z7h (r:Row):NE (ne r):=fun p hp=>of_decide_eq_true (List.mem_filter.mp hp).2
theorem zfo (p:zG) (r:Row):ne (p::r)=(if p.2=[] then[] else[p])++ne r:=by
 unfold ne;rw[List.filter_cons]
 by_cases h:p.2=[]<;>simp[h]
theorem z4n (o n:Tx) (r:Row):ne ((-1,o)::(1,n)::r)=ops o n++ne r:=by
 rw[zfo,zfo,←List.append_assoc];rfl
theorem zvj (k o n:Tx) (r:Row):ne ((0,k)::(-1,o)::(1,n)::r)=ne [(0,k)]++(ops o n++ne r):=by
 rw[←z4n,zfo,zfo (0,k) []]
 simp[ne]
theorem Run.nil:Run []:=fun _ h=>by cases h
theorem Run.snoc {r:Row}{p:zG} (h:Run r) (k:p.1=-1∨p.1=1):Run (r++[p]):=fun q hq=>by
 rcases List.mem_append.mp hq with hq | hq
 ·exact h q hq
 ·rw[List.mem_singleton] at hq;subst hq;exact k
theorem zk7 {k:Int} (h:zz8 k) (h0:k≠0):k=-1∨k=1:=by
 rcases h with h | h | h
 ·exact .inl h
 ·exact absurd h h0
 ·exact .inr h
noncomputable def pre (o n:Tx):Tx:=n.take (lcp n o)
noncomputable def mo (o n:Tx):Tx:=o.drop (lcp n o)
noncomputable def mn (o n:Tx):Tx:=n.drop (lcp n o)
noncomputable def ms (o n:Tx):Nat:=lcs (mn o n) (mo o n)
noncomputable def ro (o n:Tx):Tx:=(mo o n).take ((mo o n).length-ms o n)
noncomputable def rn (o n:Tx):Tx:=(mn o n).take ((mn o n).length-ms o n)
noncomputable def su (o n:Tx):Tx:=(mn o n).drop ((mn o n).length-ms o n)
theorem zm9 (x:Tx):lcp [] x=0:=by simp[lcp]
theorem zm7 (x:Tx):lcp x []=0:=by cases x<;>simp[lcp]
structure NT (o n:Tx):Prop where
 p:pre o n=[]
 eo:ro o n=o
 en:rn o n=n
 s:su o n=[]
theorem z4w {o n:Tx} (h:lcp n o=0) (h2:lcs n o=0):NT o n:=by
 have a:mo o n=o:=by unfold mo;rw[h];rfl
 have b:mn o n=n:=by unfold mn;rw[h];rfl
 have c:ms o n=0:=by unfold ms;rw[a,b,h2]
 refine⟨by unfold pre;rw[h];rfl,by unfold ro;rw[a,c];simp,by unfold rn;rw[b,c];simp,by unfold su;rw[b,c];simp⟩
theorem zlb {o n:Tx} (h:o=[]∨n=[]):NT o n:=by
 rcases h with rfl | rfl
 ·exact z4w (zm7 _) (by unfold lcs;exact zm7 _)
 ·exact z4w (zm9 _) (by unfold lcs;exact zm9 _)
noncomputable def zcd (done:Row) (p:Tx):Row:=if p=[] then done else zS done p
theorem zoe (done:Row) (o n t:Tx):zgn ⟨done,o,n,t⟩=⟨zcd done (pre o n),ro o n,rn o n,su o n++t⟩:=by
 have e:zM ⟨done,o,n,t⟩=⟨zcd done (pre o n),mo o n,mn o n,t⟩:=by
  unfold zM zcd
  dsimp only
  have l:=zV n o
  by_cases h:lcp n o=0
  ·rw[if_pos h,if_pos (by unfold pre;rw[h];rfl)]
   unfold mo mn;rw[h];rfl
  ·have:pre o n≠[]:=fun q=>h (by have:=congrArg List.length q;unfold pre at this;rw[List.length_take,List.length_nil] at this;grind)
   rw[if_neg h,if_neg this];rfl
 unfold zgn
 rw[e]
 unfold ze2
 dsimp only
 by_cases h:lcs (mn o n) (mo o n)=0
 ·rw[if_pos h]
  have c:ms o n=0:=h
  unfold ro rn su
  rw[c];simp
 ·rw[if_neg h];rfl
theorem zkz {k:Int}{r:Row} (h:cnt k r=0):cat k r=[]:=by
 induction r with
 | nil=>rfl
 | cons p r ih=>
  rw[zli] at h
  rw[zdn,ih (by exact Nat.le_antisymm (zc 40063459660842 rfl h) (zw 65592 rfl))]
  split at h
  ·grind
  ·rename_i q;rw[if_neg q];rfl
theorem zqd {k:Int}{r:Row} (h:cat k r≠[]):cnt k r≠0:=fun q=>h (zkz q)
theorem zki {done run:Row}{t:Tx} (hr:Run run) (hn:NE run) (h0:run≠[]):
  zr done run t=zcd done (pre (cat (-1) run) (cat 1 run))++ops (ro (cat (-1) run) (cat 1 run)) (rn (cat (-1) run) (cat 1 run))++[(0,su (cat (-1) run) (cat 1 run)++t)]:=by
 unfold zr
 by_cases hl:1<run.length
 ·rw[if_pos hl]
  unfold zb5
  by_cases hb:cnt (-1) run≠0∧cnt 1 run≠0
  ·rw[if_pos hb,zoe];rfl
  ·rw[if_neg hb]
   have z:cat (-1) run=[]∨cat 1 run=[]:=by
    by_cases q:cnt (-1) run=0
    ·exact .inl (zkz q)
    ·by_cases q2:cnt 1 run=0
     ·exact .inr (zkz q2)
     ·exact absurd ⟨q,q2⟩ hb
   have n:=zlb z
   rw[n.p,n.eo,n.en,n.s];rfl
 ·rw[if_neg hl,if_neg (fun q=>h0 q.1)]
  match run,hl,hr,hn,h0 with
  | [],_,_,_,h0=>exact absurd rfl h0
  | _::_::_,hl,_,_,_=>exact absurd (by simp) hl
  | [p],_,hr,hn,_=>
   have hp:=hn p (List.mem_singleton.mpr rfl)
   rcases hr p (List.mem_singleton.mpr rfl) with e | e
   ·have c1:cat (-1) [p]=p.2:=by rw[zdi,if_pos e]
    have c2:cat 1 [p]=[]:=by rw[zdi,if_neg (by rw[e];decide)]
    rw[c1,c2]
    have n:=zlb (o:=p.2) (n:=[]) (.inr rfl)
    rw[n.p,n.eo,n.en,n.s]
    unfold ops zcd
    rw[if_neg hp,←e];rfl
   ·have c1:cat (-1) [p]=[]:=by rw[zdi,if_neg (by rw[e];decide)]
    have c2:cat 1 [p]=p.2:=by rw[zdi,if_pos e]
    rw[c1,c2]
    have n:=zlb (o:=[]) (n:=p.2) (.inl rfl)
    rw[n.p,n.eo,n.en,n.s]
    unfold ops zcd
    rw[if_neg hp,←e];rfl
abbrev Seg:=Tx×Tx×Tx
noncomputable def zj6:Tx→Row→Row→Tx×List Seg
 | k,run,[]=>if run=[] then(k,[]) else(k,[(cat (-1) run,cat 1 run,[])])
 | k,run,(j,t)::r=>if j=0 then(if run=[] then zj6 (k++t) [] r else(k,(cat (-1) run,cat 1 run,(zj6 t [] r).1)::(zj6 t [] r).2)) else zj6 k (run++[(j,t)]) r
noncomputable def zbp:Tx→List Seg→Row×Bool
 | k,[]=>([(0,k)],false)
 | k,(o,n,k')::l=>((0,k++pre o n)::(-1,ro o n)::(1,rn o n)::(zbp (su o n++k') l).1,decide (ro o n=rn o n)||(zbp (su o n++k') l).2)
theorem zgt (s:Tx): ∀(r run:Row) (k:Tx),zj6 (s++k) run r=(s++(zj6 k run r).1,(zj6 k run r).2)
 | [],run,k=>by unfold zj6;split<;>rfl
 | (j,t)::r,run,k=>by
  unfold zj6
  split
  ·split
   ·rw[List.append_assoc];exact zgt s r _ _
   ·rfl
  ·exact zgt s r _ _
noncomputable def Rel (done D:Row) (k:Tx):Prop:=(k=[]∧done=[]∧D=[])∨(k≠[]∧done=D++[((0:Int),k)])
theorem zvt {done D:Row}{k:Tx} (h:Rel done D k) (p:Tx):zcd done p=D++ne [(0,k++p)]:=by
 unfold zcd
 rw[zfo]
 rcases h with ⟨rfl,rfl,rfl⟩ | ⟨h,rfl⟩
 ·by_cases hp:p=[]
  ·subst hp;rfl
  ·rw[if_neg hp,if_neg (by simpa using hp)];rfl
 ·by_cases hp:p=[]
  ·subst hp;rw[if_pos rfl,if_neg (by simpa using h),List.append_nil];rfl
  ·rw[if_neg hp,zt,if_neg (by simp[h])];rfl
theorem zyb {done D:Row}{k t:Tx} (h:Rel done D k) (ht:t≠[]):Rel (zr done [] t) D (k++t):=by
 right
 refine⟨by simp[ht],?_⟩
 rcases h with ⟨rfl,rfl,rfl⟩ | ⟨h,rfl⟩
 ·rfl
 ·unfold zr
  rw[if_neg (by simp),if_pos ⟨rfl,by simp⟩,zt]
theorem zdp: ∀(todo done D run:Row) (k:Tx),NE todo→zk todo→NE run→Run run→Rel done D k→
  ze1 (zg done run (todo++[(0,[])]))=D++ne (zbp (zj6 k run todo).1 (zj6 k run todo).2).1
 | [],done,D,run,k,_,_,hn,hr,hR=>by
  (dsimp only[List.nil_append];rw[zg,if_pos rfl])
  rw[show zg (zr done run []) [] []=zr done run []++[] from by rw[zg],List.append_nil]
  unfold zj6
  by_cases h0:run=[]
  ·subst h0
   rw[if_pos rfl]
   show _=D++ne [(0,k)]
   rw[zfo]
   rcases hR with ⟨rfl,rfl,rfl⟩ | ⟨h,rfl⟩
   ·rfl
   ·unfold zr
    rw[if_neg (by simp),if_pos ⟨rfl,by simp⟩,zt,List.append_nil,zdc,if_neg h,if_neg h];rfl
  ·rw[if_neg h0,zki hr hn h0,zdc,zvt hR]
   unfold zbp zbp
   dsimp only
   rw[zvj]
   by_cases hs:su (cat (-1) run) (cat 1 run)=[]
   ·rw[if_pos (by simp[hs]),hs];simp[ne]
   ·rw[if_neg (by simp[hs])];simp[ne,hs]
 | (j,t)::r,done,D,run,k,hN,hK,hn,hr,hR=>by
  have ht:t≠[]:=hN.head
  (dsimp only[List.cons_append,zg];try with_reducible rfl)
  unfold zj6
  by_cases hj:j=0
  ·rw[if_pos hj,if_pos hj]
   by_cases h0:run=[]
   ·subst h0
    rw[if_pos rfl]
    exact zdp r _ D [] _ hN.tail hK.tail .nil .nil (zyb hR ht)
   ·rw[if_neg h0,zki hr hn h0]
    have:=zdp r _ _ [] (su (cat (-1) run) (cat 1 run)++t) hN.tail hK.tail .nil .nil (Or.inr ⟨by simp[ht],rfl⟩:Rel (zcd done (pre (cat (-1) run) (cat 1 run))++ops (ro (cat (-1) run) (cat 1 run)) (rn (cat (-1) run) (cat 1 run))++[(0,su (cat (-1) run) (cat 1 run)++t)]) _ _)
    rw[this,zgt,zvt hR]
    dsimp only
    conv=>rhs;unfold zbp
    dsimp only
    rw[zvj]
    simp
  ·rw[if_neg hj,if_neg hj]
   exact zdp r _ D _ k hN.tail hK.tail (hn.append (.cons ht .nil)) (hr.snoc (zk7 hK.head hj)) hR
noncomputable def ze9 (r:Row):Row:=ne (zbp (zj6 [] [] r).1 (zj6 [] [] r).2).1
theorem zjs {r:Row} (h:NE r) (k:zk r):ze1 (zbi r)=ze9 r:=
 zdp r [] [] [] [] h k .nil .nil (.inl ⟨rfl,rfl,rfl⟩)
noncomputable def z4 (k:Int):Row→Tx
 | []=>[]
 | p::r=>(if p.1=0∨p.1=k then p.2 else[])++z4 k r
noncomputable def ze:Row→Nat
 | []=>0
 | p::r=>(if p.1=0 then 0 else p.2.length)+ze r
theorem sda (k:Int): ∀(a b:Row),z4 k (a++b)=z4 k a++z4 k b
 | [],b=>rfl
 | p::a,b=>by(dsimp only[List.cons_append,z4,z4];rw[sda k a b,List.append_assoc])
theorem zv: ∀(a b:Row),ze (a++b)=ze a+ze b
 | [],b=>by simp[ze]
 | p::a,b=>by(dsimp only[List.cons_append,ze,ze];rw[zv a b]);exact Nat.le_antisymm (zf 1230051292388267064 rfl) (zf 1230187082073285688 rfl)
theorem zch (k:Int) (p:zG):z4 k [p]=if p.1=0∨p.1=k then p.2 else[]:=by
 simp only[z4,z4,List.append_nil]
theorem z8p (o n:Tx):pre o n=o.take (lcp n o):=by
 have l:=zV n o
 exact(yU _ n o l.1 l.2).mp (Nat.le_refl _)
theorem zia (x:Tx) (s:Nat):x.drop (x.length-s)=(x.reverse.take s).reverse:=by rw[List.take_reverse,List.reverse_reverse]
theorem zqc (x:Tx) (s:Nat):x.take (x.length-s)=(x.reverse.drop s).reverse:=by rw[List.drop_reverse,List.reverse_reverse]
theorem su_o (o n:Tx):su o n=(mo o n).drop ((mo o n).length-ms o n):=by
 unfold su
 rw[zia,zia]
 have l:=zcg (mn o n) (mo o n)
 have:=(yU (ms o n) (mn o n).reverse (mo o n).reverse (by rw[List.length_reverse];exact l.1) (by rw[List.length_reverse];exact l.2)).mp (Nat.le_refl _)
 rw[this]
theorem zoj (o n:Tx):pre o n++ro o n++su o n=o:=by
 rw[z8p,su_o]
 unfold ro
 rw[List.append_assoc,List.take_append_drop]
 exact List.take_append_drop _ _
theorem zoc (o n:Tx):pre o n++rn o n++su o n=n:=by
 unfold pre rn su
 rw[List.append_assoc,List.take_append_drop]
 exact List.take_append_drop _ _
theorem zlv: ∀(a b:Tx),lcp (a.drop (lcp a b)) (b.drop (lcp a b))=0
 | [],_=>by rfl
 | _::_,[]=>by rfl
 | a::as,b::bs=>by
  by_cases h:a=b
  ·subst h
   rw[show lcp (a::as) (a::bs)=lcp as bs+1 by simp[lcp]]
   exact zlv as bs
  ·rw[show lcp (a::as) (b::bs)=0 by simp[lcp,h]]
   simp[lcp,h]
theorem zvr {a b:Tx} (h:lcp a b=0) (ha:a≠[]) (hb:b≠[]):b.head? ≠a.head? :=by
 cases a with
 | nil=>exact absurd rfl ha
 | cons x a=>cases b with
  | nil=>exact absurd rfl hb
  | cons y b=>
   intro e
   simp at e
   subst e
   simp[lcp] at h
theorem zlz {x:Tx}{k:Nat} (h:x.take k≠[]):(x.take k).head? =x.head? :=by
 cases x with
 | nil=>simp at h
 | cons a x=>cases k with
  | zero=>simp at h
  | succ k=>rfl
theorem zsx {o n:Tx} (h:ro o n≠[]) (h2:rn o n≠[]):(ro o n).head? ≠(rn o n).head? :=by
 unfold ro at h ⊢
 unfold rn at h2 ⊢
 rw[zlz h,zlz h2]
 refine zvr (zlv n o) ?_ ?_
 ·intro q;rw[show mn o n=[] from q] at h2;exact h2 (by simp)
 ·intro q;rw[show mo o n=[] from q] at h;exact h (by simp)
theorem zvi {o n:Tx} (h:ro o n≠[]) (h2:rn o n≠[]):(ro o n).getLast? ≠(rn o n).getLast? :=by
 have e1:ro o n=((mo o n).reverse.drop (ms o n)).reverse:=zqc _ _
 have e2:rn o n=((mn o n).reverse.drop (ms o n)).reverse:=zqc _ _
 rw[e1] at h ⊢
 rw[e2] at h2 ⊢
 rw[List.getLast?_reverse,List.getLast?_reverse]
 exact zvr (zlv (mn o n).reverse (mo o n).reverse) (fun q=>h2 (by show(List.drop (ms o n) (mn o n).reverse).reverse=[];rw[show List.drop (ms o n) (mn o n).reverse=[] from q];rfl)) (fun q=>h (by show(List.drop (ms o n) (mo o n).reverse).reverse=[];rw[show List.drop (ms o n) (mo o n).reverse=[] from q];rfl))
theorem zyp {k:Int} (hk:k=-1∨k=1) {r:Row} (h:Run r):z4 k r=cat k r:=by
 induction r with
 | nil=>rfl
 | cons p r ih=>
  simp only[z4,zdn,ih fun q hq=>h q (List.mem_cons_of_mem _ hq)]
  have:p.1≠0:=by rcases h p List.mem_cons_self with e | e<;>rw[e]<;>decide
  simp[this]
theorem zj7 (o n:Tx):z4 (-1) (ops o n)=o:=by
 unfold ops
 rw[sda]
 by_cases h:o=[]<;>by_cases h2:n=[]<;>simp[h,h2,z4]
theorem zkb (o n:Tx):z4 1 (ops o n)=n:=by
 unfold ops
 rw[sda]
 by_cases h:o=[]<;>by_cases h2:n=[]<;>simp[h,h2,z4]
theorem zhp {done:Row} (h:Dn done) (k:Int) (x:Tx):z4 k (zS done x)=z4 k done++x:=by
 rcases h with rfl | ⟨dn,u,rfl⟩
 ·simp[zS,z4]
 ·rw[zt,sda,sda,zch,zch];simp
theorem zo1 {done:Row} (h:Dn done) (k:Int) (x:Tx):z4 k (zcd done x)=z4 k done++x:=by
 unfold zcd
 split
 ·rename_i e;rw[e,List.append_nil]
 ·exact zhp h k x
theorem zuc {done:Row} (h:Dn done) {k:Int} (hk:k=-1∨k=1) (o n t:Tx) (b:Prop) [Decidable b]:
  z4 k (zqq (if b then zgn ⟨done,o,n,t⟩ else⟨done,o,n,t⟩))=z4 k done++(if k=-1 then o else n)++t:=by
 have kept: ∀x:Tx,z4 k [((0:Int),x)]=x:=fun x=>by rw[zch];exact if_pos (.inl rfl)
 unfold zqq
 rw[sda,sda,kept]
 have so:=zoj o n
 have sn:=zoc o n
 by_cases hb:b
 ·rw[if_pos hb,zoe]
  dsimp only
  rw[zo1 h]
  rcases hk with rfl | rfl
  ·rw[zj7,if_pos rfl]
   conv=>rhs;rw[←so]
   simp only[List.append_assoc]
  ·rw[zkb,if_neg (by decide)]
   conv=>rhs;rw[←sn]
   simp only[List.append_assoc]
 ·rw[if_neg hb]
  dsimp only
  rcases hk with rfl | rfl
  ·rw[zj7,if_pos rfl]
  ·rw[zkb,if_neg (by decide)]
theorem zow {done run:Row} (h:Dn done) (hr:Run run) {k:Int} (hk:k=-1∨k=1) (t:Tx):z4 k (zr done run t)=z4 k done++z4 k run++t:=by
 unfold zr
 split
 ·unfold zb5
  rw[zuc h hk,zyp hk hr]
  rcases hk with rfl | rfl
  ·rfl
  ·rfl
 ·split
  ·rename_i q
   rw[zhp h,q.1];simp[z4]
  ·rw[sda,sda,zch];dsimp
theorem zeg {k:Int} (hk:k=-1∨k=1): ∀(todo done run:Row),Dn done→Run run→zk todo→z4 k (zg done run todo)=z4 k done++z4 k run++z4 k todo
 | [],done,run,h,hr,_=>by simp only[zg,sda];simp[z4]
 | (j,t)::r,done,run,h,hr,hK=>by
  simp only[zg]
  split
  ·rename_i e
   rw[zeg hk r _ _ (.inr (za0 h t)) .nil hK.tail,zow h hr hk]
   simp[z4,e]
  ·rename_i e
   rw[zeg hk r _ _ h (hr.snoc (zk7 hK.head e)) hK.tail,sda,zch,z4];simp
theorem znb (k:Int): ∀r:Row,z4 k (ze1 r)=z4 k r
 | []=>rfl
 | [p]=>by
  unfold ze1
  split
  ·rename_i e;rw[zch,e];simp[z4]
  ·rfl
 | p::q::r=>by
  show(if p.1=0∨p.1=k then p.2 else[])++z4 k (ze1 (q::r))=(if p.1=0∨p.1=k then p.2 else[])++z4 k (q::r)
  rw[znb k (q::r)]
theorem zeo {k:Int} (hk:k=-1∨k=1) {r:Row} (hK:zk r):z4 k (ze1 (zbi r))=z4 k r:=by
 rw[znb]
 unfold zbi
 rw[zeg hk _ _ _ (.inl rfl) .nil (hK.append (.cons (.inr (.inl rfl)) .nil)),sda,zch];simp[z4]
noncomputable def adj (R:zG→zG→Prop):Row→Prop
 | a::b::r=>R a b∧adj R (b::r)
 | _=>True
theorem zyu {R:zG→zG→Prop}{a:zG}{r:Row} (h:adj R (a::r)):adj R r:=by
 cases r with
 | nil=>trivial
 | cons b r=>exact h.2
theorem zgq {R:zG→zG→Prop}: ∀{A B:Row},adj R A→adj R B→(∀dn u,A=dn++[u]→∀b B',B=b::B'→R u b)→adj R (A++B)
 | [],B,_,hB,_=>hB
 | [a],B,_,hB,hJ=>by
  cases B with
  | nil=>trivial
  | cons b B=>exact⟨hJ [] a rfl b B rfl,hB⟩
 | a::b::A,B,hA,hB,hJ=>by
  refine⟨hA.1,?_⟩
  exact zgq (A:=b::A) hA.2 hB fun dn u e=>hJ (a::dn) u (by rw[e];rfl)
theorem zib {R:zG→zG→Prop}: ∀{A B:Row},adj R (A++B)→adj R A
 | [],_,_=>trivial
 | [a],_,_=>trivial
 | a::b::A,B,h=>⟨h.1,zib (A:=b::A) (B:=B) h.2⟩
structure Good2 (x y:Tx):Prop where
 h:x.head? ≠y.head?
 l:x.getLast? ≠y.getLast?
noncomputable def gp (a b:zG):Prop:=a.1≠0→b.1≠0→a.1=-1∧b.1=1∧a.2≠[]∧b.2≠[]∧Good2 a.2 b.2
theorem zf9 {A:Row}{u:Tx} (h:adj gp A):adj gp (A++[((0:Int),u)]):=
 zgq h trivial fun _ _ _ b B' e=>by cases e;exact fun _ q=>absurd rfl q
theorem zvn {A B:Row} (hD:Dn A) (h:adj gp A) (hB:adj gp B):adj gp (A++B):=by
 refine zgq h hB fun dn u e b B' _ q=>?_
 rcases hD with rfl | ⟨dn',v,rfl⟩
 ·cases dn<;>cases e
 ·obtain⟨_,e⟩:=List.append_inj' e rfl
  cases e
  exact absurd rfl q
theorem zr5 {done:Row} (hD:Dn done) (h:adj gp done) (x:Tx):adj gp (zcd done x)∧Dn (zcd done x):=by
 unfold zcd
 split
 ·exact⟨h,hD⟩
 ·refine⟨?_,.inr (zgp hD x)⟩
  rcases hD with rfl | ⟨dn,u,rfl⟩
  ·trivial
  ·rw[zt];exact zf9 (zib h)
theorem zws {o n:Tx} (h:o≠[]→n≠[]→Good2 o n):adj gp (ops o n):=by
 unfold ops
 by_cases h1:o=[]
 ·rw[if_pos h1]
  split<;>trivial
 ·by_cases h2:n=[]
  ·rw[if_pos h2,if_neg h1];trivial
  ·rw[if_neg h1,if_neg h2]
   exact⟨fun _ _=>⟨rfl,rfl,h1,h2,h h1 h2⟩,trivial⟩
theorem zsr (o n:Tx):ro o n≠[]→rn o n≠[]→Good2 (ro o n) (rn o n):=fun h h2=>⟨zsx h h2,zvi h h2⟩
theorem zj4 {done run:Row} (hD:Dn done) (h:adj gp done) (t:Tx):adj gp (zr done run t):=by
 unfold zr
 split
 ·unfold zb5
  by_cases hb:cnt (-1) run≠0∧cnt 1 run≠0
  ·rw[if_pos hb,zoe]
   obtain⟨a,b⟩:=zr5 hD h (pre (cat (-1) run) (cat 1 run))
   exact zf9 (zvn b a (zws (zsr _ _)))
  ·rw[if_neg hb]
   refine zf9 (zvn hD h (zws fun h1 h2=>absurd ⟨zqd h1,zqd h2⟩ hb))
 ·rename_i hl
  split
  ·rcases hD with rfl | ⟨dn,u,rfl⟩
   ·trivial
   ·rw[zt];exact zf9 (zib h)
  ·refine zf9 (zvn hD h ?_)
   match run,hl with
   | [],_=>trivial
   | [_],_=>trivial
   | _::_::_,hl=>exact absurd (by simp) hl
theorem zfn (x:Tx): ∀(todo done run:Row),Dn done→adj gp done→adj gp (zg done run (todo++[(0,x)]))
 | [],done,run,hD,h=>by
  rw[List.nil_append,zg,if_pos rfl,zg,List.append_nil]
  exact zj4 hD h _
 | (j,t)::r,done,run,hD,h=>by
  (dsimp only[List.cons_append,zg];try with_reducible rfl)
  split
  ·exact zfn x r _ _ (.inr (za0 hD t)) (zj4 hD h t)
  ·exact zfn x r _ _ hD h
theorem zut (r:Row):adj gp (ze1 (zbi r)):=by
 unfold zbi
 have h:=zfn [] r [] [] (.inl rfl) trivial
 obtain⟨dn,u,e⟩:=zeu [] r [] [] (.inl rfl)
 rw[e] at h ⊢
 rw[zdc]
 split
 ·exact zib h
 ·exact h
noncomputable def z3d (b a:Tx):Prop:=a.length≤b.length∧b.drop (b.length-a.length)=a
noncomputable def znc (b c:Tx):Prop:=b.take c.length=c
noncomputable def sc (a b c:zG):Prop:=a.1=0∧c.1=0∧(z3d b.2 a.2∨znc b.2 c.2)
theorem zpq {b a:Tx}:z3d b a↔∃w,b=w++a:=by
 constructor
 ·rintro ⟨h,e⟩
  exact⟨b.take (b.length-a.length),by have k:=List.take_append_drop (b.length-a.length) b;rw[e] at k;exact k.symm⟩
 ·rintro ⟨w,rfl⟩
  refine⟨by simp,?_⟩
  rw[List.length_append,Nat.add_sub_cancel]
  exact List.drop_left' rfl
theorem zkk {b c:Tx}:znc b c↔∃w,b=c++w:=by
 constructor
 ·intro e
  exact⟨b.drop c.length,by have k:=List.take_append_drop c.length b;rw[show b.take c.length=c from e] at k;exact k.symm⟩
 ·rintro ⟨w,rfl⟩
  unfold znc
  exact List.take_left' rfl
theorem z9c {a b c:zG}{C:Row} (h0:a.1=0) (h1:c.1=0) (h:z3d b.2 a.2):
  sgo a (b::c::C)=((b.1,a.2++b.2.take (b.2.length-a.2.length))::(sgo (c.1,a.2++c.2) C).1,true):=by
 rw[sgo,if_pos ⟨h0,h1⟩];exact if_pos h
theorem z8z {a b c:zG}{C:Row} (h0:a.1=0) (h1:c.1=0) (h: ¬z3d b.2 a.2) (h2:znc b.2 c.2):
  sgo a (b::c::C)=((a.1,a.2++c.2)::(sgo (b.1,b.2.drop c.2.length++c.2) C).1,true):=by
 rw[sgo,if_pos ⟨h0,h1⟩];exact(if_neg h).trans (if_pos h2)
theorem z7f {a b c:zG}{C:Row} (h: ¬sc a b c):
  sgo a (b::c::C)=(a::(sgo b (c::C)).1,(sgo b (c::C)).2):=by
 rw[sgo]
 by_cases g:a.1=0∧c.1=0
 ·rw[if_pos g];exact(if_neg (fun q=>h ⟨g.1,g.2,.inl q⟩)).trans (if_neg (fun q=>h ⟨g.1,g.2,.inr q⟩))
 ·rw[if_neg g]
noncomputable def zob:Row→Prop
 | a::b::c::C=> ¬sc a b c∧zob (b::c::C)
 | _=>True
theorem zwl {a:zG}{r:Row} (h:zob (a::r)):zob r:=by
 match r,h with
 | [],_=>trivial
 | [b],_=>trivial
 | b::c::C,h=>exact h.2
theorem zko: ∀(r:Row) (a:zG),zob (a::r)→sgo a r=(a::r,false)
 | [],a,_=>by simp[sgo]
 | [b],a,_=>by simp[sgo]
 | b::c::C,a,h=>by rw[z7f h.1,zko (c::C) b h.2]
theorem zir: ∀(r:Row) (a:zG),¬zob (a::r)→(sgo a r).2=true
 | [],a,h=>absurd trivial h
 | [b],a,h=>absurd trivial h
 | b::c::C,a,h=>by
  by_cases g:sc a b c
  ·obtain⟨h0,h1,h2⟩:=g
   by_cases hl:z3d b.2 a.2
   ·rw[z9c h0 h1 hl]
   ·rcases h2 with h2 | h2
    ·exact absurd h2 hl
    ·rw[z8z h0 h1 hl h2]
  ·rw[z7f g]
   exact zir (c::C) b fun q=>h ⟨g,q⟩
theorem zlj {r:Row} (h:zob r):zay r=(r,false):=by
 cases r with
 | nil=>rfl
 | cons a r=>exact zko r a h
theorem zjm {r:Row} (h: ¬zob r):(zay r).2=true:=by
 cases r with
 | nil=>exact absurd trivial h
 | cons a r=>exact zir r a h
theorem yY {M:zG→Row→Row×Bool→Prop} (h0: ∀a,M a [] ([a],false)) (h1: ∀a b,M a [b] ([a,b],false))
  (hl: ∀a b c C x,a.1=0→c.1=0→z3d b.2 a.2→M (c.1,a.2++c.2) C x→M a (b::c::C) ((b.1,a.2++b.2.take (b.2.length-a.2.length))::x.1,true))
  (hr: ∀a b c C x,a.1=0→c.1=0→znc b.2 c.2→M (b.1,b.2.drop c.2.length++c.2) C x→M a (b::c::C) ((a.1,a.2++c.2)::x.1,true))
  (hn: ∀a b c C x,M b (c::C) x→M a (b::c::C) (a::x.1,x.2)): ∀(r:Row) (a:zG),M a r (sgo a r)
 | [],a=>by rw[show sgo a []=([a],false) by simp[sgo]];exact h0 a
 | [b],a=>by rw[show sgo a [b]=([a,b],false) by simp[sgo]];exact h1 a b
 | b::c::C,a=>by
  by_cases g:sc a b c
  ·obtain⟨g0,g1,g2⟩:=g
   by_cases q:z3d b.2 a.2
   ·rw[z9c g0 g1 q]
    exact hl a b c C _ g0 g1 q (yY h0 h1 hl hr hn C _)
   ·rcases g2 with g2 | g2
    ·exact absurd g2 q
    ·rw[z8z g0 g1 q g2]
     exact hr a b c C _ g0 g1 g2 (yY h0 h1 hl hr hn C _)
  ·rw[z7f g]
   exact hn a b c C _ (yY h0 h1 hl hr hn (c::C) b)
theorem zf6 {M:Row→Row×Bool→Prop} (h:M [] ([],false)) (k: ∀r a,M (a::r) (sgo a r)) (r:Row):M r (zay r):=by
 cases r with
 | nil=>exact h
 | cons a r=>exact k r a
theorem zkj (k:Int) (r:Row):z4 k (zay r).1=z4 k r:=by
 refine zf6 (M:=fun r x=>z4 k x.1=z4 k r) rfl (yY (M:=fun a r x=>z4 k x.1=z4 k (a::r)) (fun _=>rfl) (fun _ _=>rfl) ?_ ?_ ?_) r
 ·rintro ⟨ka,x⟩ ⟨j,y⟩ ⟨kc,z⟩ C X h0 h1 h ih
  dsimp only at h0 h1 h ih ⊢
  subst h0;subst h1
  obtain⟨w,rfl⟩:=zpq.mp h
  rw[z4,ih]
  simp only[z4]
  rw[List.length_append,Nat.add_sub_cancel,List.take_left' rfl]
  by_cases q:j=0∨j=k
  ·simp[q]
  ·simp[q]
 ·rintro ⟨ka,x⟩ ⟨j,y⟩ ⟨kc,z⟩ C X h0 h1 h ih
  dsimp only at h0 h1 h ih ⊢
  subst h0;subst h1
  obtain⟨w,rfl⟩:=zkk.mp h
  rw[z4,ih]
  simp only[z4]
  rw[List.drop_left' rfl]
  by_cases q:j=0∨j=k
  ·simp[q]
  ·simp[q]
 ·intro a b c C X ih
  show(if a.1=0∨a.1=k then a.2 else[])++z4 k X.1=(if a.1=0∨a.1=k then a.2 else[])++z4 k (b::c::C)
  rw[ih]
theorem zmb (r:Row):ze (zay r).1=ze r:=by
 refine zf6 (M:=fun r x=>ze x.1=ze r) rfl (yY (M:=fun a r x=>ze x.1=ze (a::r)) (fun _=>rfl) (fun _ _=>rfl) ?_ ?_ ?_) r
 ·rintro ⟨ka,x⟩ ⟨j,y⟩ ⟨kc,z⟩ C X h0 h1 h ih
  dsimp only at h0 h1 h ih ⊢
  subst h0;subst h1
  obtain⟨w,rfl⟩:=zpq.mp h
  rw[ze,ih]
  simp only[ze]
  rw[List.length_append (as:=w),Nat.add_sub_cancel,List.take_left' rfl]
  by_cases q:j=0<;>simp[q];exact Nat.add_comm ..
 ·rintro ⟨ka,x⟩ ⟨j,y⟩ ⟨kc,z⟩ C X h0 h1 h ih
  dsimp only at h0 h1 h ih ⊢
  subst h0;subst h1
  obtain⟨w,rfl⟩:=zkk.mp h
  rw[ze,ih]
  simp only[ze]
  rw[List.drop_left' rfl]
  by_cases q:j=0<;>simp[q];exact Nat.add_comm ..
 ·intro a b c C X ih
  show(if a.1=0 then 0 else a.2.length)+ze X.1=(if a.1=0 then 0 else a.2.length)+ze (b::c::C)
  rw[ih]
theorem zyw {r:Row} (hN:NE r):NE (zay r).1:=by
 refine zf6 (M:=fun r x=>NE r→NE x.1) (fun h=>h) (yY (M:=fun a r x=>NE (a::r)→NE x.1) (fun _ h=>h) (fun _ _ h=>h) ?_ ?_ ?_) r hN
 ·intro a b c C x h0 h1 h ih hN
  have hb:b.2≠[]:=hN.tail.head
  have ha:a.2≠[]:=hN.head
  exact .cons (by simp[ha]) (ih (.cons (by simp[ha]) hN.tail.tail.tail))
 ·intro a b c C x h0 h1 h ih hN
  have hc:c.2≠[]:=hN.tail.tail.head
  exact .cons (by simp[hc]) (ih (.cons (by simp[hc]) hN.tail.tail.tail))
 ·intro a b c C x ih hN
  exact .cons hN.head (ih hN.tail)
theorem zmf: ∀r:Row,ze (ne r)=ze r
 | []=>rfl
 | p::r=>by
  simp only[zfo,zv,zmf r,ze]
  by_cases h:p.2=[]
  ·rw[if_pos h,h];simp[ze]
  ·rw[if_neg h,ze];rfl
noncomputable def wt:List Seg→Nat
 | []=>0
 | (o,n,_)::l=>o.length+n.length+wt l
theorem zkr {r:Row} (h:Run r):ze r=(cat (-1) r).length+(cat 1 r).length:=by
 induction r with
 | nil=>rfl
 | cons p r ih=>
  simp only[ze,zdn,zdn,ih fun q hq=>h q (List.mem_cons_of_mem _ hq),List.length_append,List.length_append]
  rcases h p List.mem_cons_self with e | e<;>rw[e]<;>simp<;>grind
theorem zq1: ∀(r run:Row) (k:Tx),Run run→zk r→wt (zj6 k run r).2=ze run+ze r
 | [],run,k,hr,_=>by
  unfold zj6
  by_cases h:run=[]
  ·subst h;rfl
  ·rw[if_neg h,zkr hr];rfl
 | (j,t)::r,run,k,hr,hK=>by
  unfold zj6
  by_cases hj:j=0
  ·rw[if_pos hj,ze,if_pos hj,Nat.zero_add]
   by_cases h:run=[]
   ·subst h
    rw[if_pos rfl]
    exact zq1 r [] (k++t) .nil hK.tail
   ·rw[if_neg h,zkr hr]
    dsimp only
    simp only[wt,zq1 r [] t .nil hK.tail,ze,Nat.zero_add]
  ·rw[if_neg hj,zq1 r (run++[(j,t)]) k (hr.snoc (zk7 hK.head hj)) hK.tail,zv,ze,ze,ze,Nat.add_zero,Nat.add_assoc]
theorem z6k (o n:Tx):(ro o n).length+(rn o n).length≤o.length+n.length:=by
 have a:=congrArg List.length (zoj o n)
 have b:=congrArg List.length (zoc o n)
 rw[List.length_append,List.length_append] at a b
 exact zk8 219043576848983746990101904465720288298 rfl a b
theorem zks: ∀(l:List Seg) (k:Tx),ze (zbp k l).1≤wt l
 | [],k=>Nat.le_refl _
 | (o,n,k')::l,k=>by
  have e:ze (zbp k ((o,n,k')::l)).1=(ro o n).length+((rn o n).length+ze (zbp (su o n++k') l).1):=by
   rw[zbp];exact Nat.zero_add _
  simp only[e,wt,←Nat.add_assoc]
  exact Nat.add_le_add (z6k o n) (zks l _)
theorem zh7 {r:Row} (hK:zk r):ze (ze9 r)≤ze r:=by
 have c:=zks (zj6 [] [] r).2 (zj6 [] [] r).1
 rw[zq1 r [] [] .nil hK,ze,Nat.zero_add] at c
 unfold ze9
 rw[zmf]
 exact c
theorem zg1: ∀(n:Nat) (r:Row),zk r→phi r<n→zk (zB n r)∧∀k:Int,k=-1∨k=1→z4 k (zB n r)=z4 k r
 | 0,r,_,h=>absurd h (Nat.not_lt_zero _)
 | n+1,r,hK,h=>by
  have hM:=zgh r
  have hk:zk (ze1 (zbi r)):=zc9 _ (yP _ _ _ .nil .nil (hK.append (.cons (.inr (.inl rfl)) .nil)))
  have hs:=zf2 (ze1 (zbi r))
  simp only[zB]
  by_cases g:zob (ze1 (zbi r))
  ·rw[zlj g]
   exact⟨hk,fun k hk=>zeo hk hK⟩
  ·have y:=zjm g
   rw[if_pos y]
   rw[if_pos y] at hs
   obtain⟨a,e⟩:=zg1 n (zay (ze1 (zbi r))).1 (zdq hk) (Nat.lt_of_lt_of_le hs (ntr hM (Nat.le_of_lt_succ h)))
   exact⟨a,fun k q=>by rw[e k q,zkj,zeo q hK]⟩
theorem zme: ∀(n:Nat) (r:Row),zk r→phi r<n→zk (zB n r)∧adj gp (zB n r)∧zob (zB n r)∧phi (zB n r)≤phi r∧∀k:Int,k=-1∨k=1→z4 k (zB n r)=z4 k r
 | 0,r,_,h=>absurd h (Nat.not_lt_zero _)
 | n+1,r,hK,h=>by
  have hM:=zgh r
  have hk:zk (ze1 (zbi r)):=zc9 _ (yP _ _ _ .nil .nil (hK.append (.cons (.inr (.inl rfl)) .nil)))
  have hs:=zf2 (ze1 (zbi r))
  simp only[zB]
  by_cases g:zob (ze1 (zbi r))
  ·rw[zlj g,if_neg (by simp)]
   exact⟨hk,zut r,g,hM,fun k hk=>zeo hk hK⟩
  ·have y:=zjm g
   rw[if_pos y]
   rw[if_pos y] at hs
   obtain⟨a,b,c,d,e⟩:=zme n (zay (ze1 (zbi r))).1 (zdq hk) (by exact zP 373041552924918690974281776103977 rfl h hM hs)
   exact⟨a,b,c,by exact zP 364297787688122670464289538600 rfl hM hs d,fun k q=>by rw[e k q,zkj,zeo q hK]⟩
theorem zh9: ∀(n:Nat) (r:Row),NE r→zk r→phi r<n→NE (zB n r)∧ze (zB n r)≤ze (ze9 r)∧(zob (ze9 r)→zB n r=ze9 r)
 | 0,r,_,_,h=>absurd h (Nat.not_lt_zero _)
 | n+1,r,hN,hK,h=>by
  have hM:=zgh r
  have hs:=zf2 (ze1 (zbi r))
  have hk:zk (ze1 (zbi r)):=zc9 _ (yP _ _ _ .nil .nil (hK.append (.cons (.inr (.inl rfl)) .nil)))
  have e:=zjs hN hK
  rw[e] at hM hs hk
  have hR:NE (ze9 r):=z7h _
  rw[zB,e]
  by_cases g:zob (ze9 r)
  ·rw[zlj g]
   exact⟨hR,Nat.le_refl _,fun _=>rfl⟩
  ·have y:=zjm g
   rw[if_pos y]
   rw[if_pos y] at hs
   have hK':=zdq hk
   obtain⟨a,b,_⟩:=zh9 n (zay (ze9 r)).1 (zyw hR) hK' (Nat.lt_of_lt_of_le hs (ntr hM (Nat.le_of_lt_succ h)))
   exact⟨a,ntr b (ntr (zh7 hK') (Nat.le_of_eq (zmb (ze9 r)))),fun q=>absurd q g⟩
inductive Ed:Nat→Tx→Tx→Prop
 | nil:Ed 0 [] []
 | eq {d:Nat} {a b:Tx} (c:Char):Ed d a b→Ed d (c::a) (c::b)
 | del {d:Nat} {a b:Tx} (c:Char):Ed d a b→Ed (d+1) (c::a) b
 | ins {d:Nat} {a b:Tx} (c:Char):Ed d a b→Ed (d+1) a (c::b)
theorem Ed.append {d e:Nat}{a b a' b':Tx} (h:Ed d a b) (k:Ed e a' b'):Ed (d+e) (a++a') (b++b'):=by
 induction h with
 | nil=>rw[Nat.zero_add];exact k
 | eq c _ ih=>exact .eq c ih
 | del c _ ih=>rw[Nat.add_right_comm];exact .del c ih
 | ins c _ ih=>rw[Nat.add_right_comm];exact .ins c ih
theorem Ed.rev {d:Nat}{a b:Tx} (h:Ed d a b):Ed d a.reverse b.reverse:=by
 induction h with
 | nil=>exact .nil
 | eq c _ ih=>rw[List.reverse_cons,List.reverse_cons];exact ih.append (.eq c .nil)
 | @del d a b c _ ih=>rw[List.reverse_cons];have:=ih.append (.del c .nil);rw[List.append_nil] at this;exact this
 | @ins d a b c _ ih=>rw[List.reverse_cons];have:=ih.append (.ins c .nil);rw[List.append_nil] at this;exact this
theorem Ed.bound {d:Nat}{a b:Tx} (h:Ed d a b):a.length≤b.length+d∧b.length≤a.length+d∧∃t,a.length+b.length=d+2 * t:=by
 induction h with
 | nil=>exact⟨Nat.le_refl _,Nat.le_refl _,0,rfl⟩
 | eq c _ ih=>
  obtain⟨h1,h2,t,h3⟩:=ih
  refine⟨?_,?_,t+1,?_⟩
  ·simp only[List.length_cons];exact zf 10313990852347433046377000 rfl h1
  ·simp only[List.length_cons];exact zf 10313990852347433046377000 rfl h2
  ·simp only[List.length_cons];exact Nat.le_antisymm (zP 87169913192333933568614654769982084138 rfl h3) (zP 87168939652108043791570704972103291947 rfl h3)
 | del c _ ih=>
  obtain⟨h1,h2,t,h3⟩:=ih
  refine⟨?_,?_,t,?_⟩
  ·simp only[List.length_cons];exact zf 4917206794456948198212136 rfl h1
  ·simp only[List.length_cons];exact zf 4917201328173318058672680 rfl h2
  ·simp only[List.length_cons];exact Nat.le_antisymm (zP 261242591875517636033140243871306794 rfl h3) (zP 260274834035994188483852261507732523 rfl h3)
 | ins c _ ih=>
  obtain⟨h1,h2,t,h3⟩:=ih
  refine⟨?_,?_,t,?_⟩
  ·simp only[List.length_cons];exact zf 4917201328173318058672680 rfl h1
  ·simp only[List.length_cons];exact zf 4917206794456948198212136 rfl h2
  ·simp only[List.length_cons];exact Nat.le_antisymm (zP 261242591874919034576262350493979690 rfl h3) (zP 85126640500797788388218927834993707 rfl h3)
noncomputable def z4d (a:Char) (f:Tx→Nat):Tx→Nat
 | []=>f []+1
 | b::bs=>if a=b then f bs else min (f (b::bs)) (z4d a f bs)+1
noncomputable def zm:Tx→Tx→Nat
 | [],b=>b.length
 | a::as,b=>z4d a (zm as) b
theorem zll (b:Tx):zm [] b=b.length:=rfl
theorem zlq (a b:Char) (as bs:Tx):zm (a::as) (b::bs)=if a=b then zm as bs else min (zm as (b::bs)) (zm (a::as) bs)+1:=rfl
theorem zbf: ∀a:Tx,zm a []=a.length
 | []=>rfl
 | a::as=>congrArg (·+1) (zbf as)
theorem zwf: ∀a:Tx,Ed a.length a []
 | []=> .nil
 | c::a=> .del c (zwf a)
theorem zok: ∀a:Tx,Ed a.length [] a
 | []=> .nil
 | c::a=> .ins c (zok a)
theorem zu: ∀a b:Tx,Ed (zm a b) a b
 | [],b=>zok b
 | a::as,[]=>by rw[zbf];exact zwf (a::as)
 | a::as,b::bs=>by
  rw[zlq]
  by_cases e:a=b
  ·rw[if_pos e,e];exact .eq b (zu as bs)
  ·rw[if_neg e]
   rcases Nat.le_total (zm as (b::bs)) (zm (a::as) bs) with h | h
   ·rw[Nat.min_eq_left h];exact .del a (zu as (b::bs))
   ·rw[Nat.min_eq_right h];exact .ins b (zu (a::as) bs)
theorem Ed.dropR {d:Nat}{a b:Tx} (h:Ed d a b): ∀(c:Char) (bs:Tx),b=c::bs→∃e,e≤d+1∧Ed e a bs:=by
 induction h with
 | nil=>intro c bs q;cases q
 | eq c h _=>intro c' bs q;cases q;exact⟨_,Nat.le_refl _,.del c h⟩
 | ins c h _=>intro c' bs q;cases q;exact⟨_,ntr (Nat.le_succ _) (Nat.le_succ _),h⟩
 | del c h ih=>
  intro c' bs q
  obtain⟨e,he,k⟩:=ih c' bs q
  exact⟨e+1,Nat.succ_le_succ he,.del c k⟩
theorem Ed.swap {d:Nat}{a b:Tx} (h:Ed d a b):Ed d b a:=by
 induction h with
 | nil=>exact .nil
 | eq c _ ih=>exact .eq c ih
 | del c _ ih=>exact .ins c ih
 | ins c _ ih=>exact .del c ih
theorem Ed.dropL {d:Nat}{c:Char}{as b:Tx} (h:Ed d (c::as) b): ∃e,e≤d+1∧Ed e as b:=
 let ⟨e,he,k⟩:=h.swap.dropR c as rfl;⟨e,he,k.swap⟩
theorem Ed.diag {d:Nat}{x y:Tx} (h:Ed d x y): ∀{a b:Char}{as bs:Tx},x=a::as→y=b::bs→∃e,e≤d∧Ed e as bs:=by
 cases h with
 | nil=>intro _ _ _ _ q;cases q
 | eq c h=>intro _ _ _ _ q1 q2;cases q1;cases q2;exact⟨_,Nat.le_refl _,h⟩
 | del c h=>intro _ _ _ _ q1 q2;cases q1;exact h.dropR _ _ q2
 | ins c h=>intro _ _ _ _ q1 q2;cases q2;subst q1;exact h.dropL
theorem zaa: ∀(a b:Tx) {d:Nat},Ed d a b→zm a b≤d
 | [],b,d,h=>by have:=h.bound.2.1;rw[zll];simpa using this
 | a::as,[],d,h=>by have:=h.bound.1;rw[zbf];simpa using this
 | a::as,b::bs,d,h=>by
  rw[zlq]
  by_cases e:a=b
  ·rw[if_pos e]
   obtain⟨e,he,k⟩:=h.diag rfl rfl
   exact ntr (zaa as bs k) he
  ·rw[if_neg e]
   cases h with
   | eq c h=>exact absurd rfl e
   | del c h=>exact Nat.succ_le_succ (ntr (Nat.min_le_left ..) (zaa as (b::bs) h))
   | ins c h=>exact Nat.succ_le_succ (ntr (Nat.min_le_right ..) (zaa (a::as) bs h))
termination_by a b=>a.length+b.length
theorem zp (a b:Tx):zm a.reverse b.reverse=zm a b:=by
 refine Nat.le_antisymm (zaa _ _ (zu a b).rev) ?_
 have:=zaa _ _ (zu a.reverse b.reverse).rev
 rw[List.reverse_reverse,List.reverse_reverse] at this;exact this
theorem zgi (a b:Tx):zm a b=zm b a:=Nat.le_antisymm (zaa _ _ (zu b a).swap) (zaa _ _ (zu a b).swap)
theorem zau (a b a' b':Tx):zm (a++a') (b++b')≤zm a b+zm a' b':=zaa _ _ ((zu a b).append (zu a' b'))
theorem zwm (a b:Char) (as bs:Tx):zm as bs≤zm (a::as) (b::bs):=let ⟨_,he,k⟩:=(zu (a::as) (b::bs)).diag rfl rfl;ntr (zaa _ _ k) he
theorem zeb (a:Tx):zm a a=0:=by
 induction a with
 | nil=>rfl
 | cons c a ih=>rw[zlq,if_pos rfl];exact ih
theorem Ed.zero {d:Nat}{a b:Tx} (h:Ed d a b):d=0→a=b:=by
 induction h with
 | nil=>exact fun _=>rfl
 | eq c _ ih=>exact fun q=>by rw[ih q]
 | del=>exact fun q=>nomatch q
 | ins=>exact fun q=>nomatch q
theorem Ed.split {d:Nat}{a b:Tx} (h:Ed d a b): ∀e,e≤d→∃x y,x≤a.length∧y≤b.length∧Ed e (a.take x) (b.take y)∧Ed (d-e) (a.drop x) (b.drop y):=by
 induction h with
 | nil=>intro e he;cases Nat.le_zero.mp he;exact⟨0,0,Nat.le_refl _,Nat.le_refl _,.nil,.nil⟩
 | eq c h ih=>
  intro e he
  refine bc fun z9=>?_
  obtain⟨x,y,h1,h2,h3,h4⟩:=ih e he
  refine z9 ?_
  exact⟨x+1,y+1,Nat.succ_le_succ h1,Nat.succ_le_succ h2,.eq c h3,h4⟩
 | del c h ih=>
  intro e he
  cases e with
  | zero=>exact⟨0,0,Nat.zero_le _,Nat.zero_le _,.nil,.del c h⟩
  | succ e=>
   refine bc fun z9=>?_
   obtain⟨x,y,h1,h2,h3,h4⟩:=ih e (Nat.le_of_succ_le_succ he)
   refine z9 ?_
   exact⟨x+1,y,Nat.succ_le_succ h1,h2,.del c h3,by rw[Nat.succ_sub_succ];exact h4⟩
 | ins c h ih=>
  intro e he
  cases e with
  | zero=>exact⟨0,0,Nat.zero_le _,Nat.zero_le _,.nil,.ins c h⟩
  | succ e=>
   refine bc fun z9=>?_
   obtain⟨x,y,h1,h2,h3,h4⟩:=ih e (Nat.le_of_succ_le_succ he)
   refine z9 ?_
   exact⟨x,y+1,h1,Nat.succ_le_succ h2,.ins c h3,by rw[Nat.succ_sub_succ];exact h4⟩
noncomputable def EE (a b:Tx) (x y:Nat):Nat:=zm (a.take x) (b.take y)+(x-a.length)+(y-b.length)
noncomputable def RR (a b:Tx) (x y:Nat):Nat:=zm (a.drop x) (b.drop y)
theorem yW {a:Tx}{x:Nat} (h:x<a.length):a.take (x+1)=a.take x++[a[x]]:=by rw[List.take_add_one,List.getElem?_eq_getElem h];rfl
theorem zhu (c:Char):zm [c] []=1:=zbf [c]
theorem zpt (a b:Tx) (x y:Nat):EE a b (x+1) y≤EE a b x y+1:=by
 unfold EE
 by_cases h:x<a.length
 ·have:=zau (a.take x) (b.take y) [a[x]] []
  rw[←yW h,List.append_nil,zhu] at this
  rw[Nat.sub_eq_zero_of_le h,Nat.sub_eq_zero_of_le (Nat.le_of_lt h)]
  clear h
  exact zf 5154785129929004933401279070760 rfl this
 ·rw[List.take_of_length_le (Nat.le_succ_of_le (Nat.le_of_not_lt h):a.length≤x+1),List.take_of_length_le (Nat.le_of_not_lt h),Nat.succ_sub (Nat.le_of_not_lt h)]
  clear h
  exact zf 614539490069592617821240 rfl
theorem zpa (a b:Tx) (x y:Nat):EE a b x y=EE b a y x:=by unfold EE;rw[zgi];exact Nat.le_antisymm (zf 658094139711202360 rfl) (zf 658094139711202360 rfl)
theorem z12 (a b:Tx) (x y:Nat):EE a b x (y+1)≤EE a b x y+1:=by rw[zpa,zpa a b x y];exact zpt b a y x
theorem zxz {a b:Tx}{x y:Nat} (h1:x<a.length) (h2:y<b.length) (e:a[x]=b[y]):EE a b (x+1) (y+1)≤EE a b x y:=by
 unfold EE
 have:=zau (a.take x) (b.take y) [a[x]] [b[y]]
 rw[←yW h1,←yW h2,e,zeb] at this
 rw[Nat.sub_eq_zero_of_le h1,Nat.sub_eq_zero_of_le (Nat.le_of_lt h1),Nat.sub_eq_zero_of_le h2,Nat.sub_eq_zero_of_le (Nat.le_of_lt h2)]
 exact this
theorem zlc (x n:Nat):min x n+(x-n)=x:=by
 rcases Nat.le_total x n with h | h
 ·rw[Nat.min_eq_left h,Nat.sub_eq_zero_of_le h];rfl
 ·rw[Nat.min_eq_right h,Nat.add_sub_cancel' h]
theorem zrd (a b:Tx) (x y:Nat): ∃t,x+y=EE a b x y+2 * t:=by
 obtain⟨_,_,t,h⟩:=(zu (a.take x) (b.take y)).bound
 rw[List.length_take,List.length_take] at h
 refine⟨t,?_⟩
 unfold EE
 have p:=zlc x a.length
 have q:=zlc y b.length
 generalize zm (a.take x) (b.take y)=D at *
 generalize min x a.length=i at *
 generalize min y b.length=j at *
 generalize x-a.length=u at *
 generalize y-b.length=v at *
 exact Nat.le_antisymm (zpr 19278601283674576827048671004165613121052057339282592810 rfl h p q) (zpr 43923111776394531867098133244234790156923849817265804331 rfl h p q)
theorem ze4 {a b:Tx}{x y:Nat} (h1:x≤a.length) (h2:y≤b.length):EE a b x y=zm (a.take x) (b.take y):=by unfold EE;rw[Nat.sub_eq_zero_of_le h1,Nat.sub_eq_zero_of_le h2];rfl
theorem zgy (a b:Tx) (x y:Nat):x≤y+EE a b x y∧y≤x+EE a b x y:=by
 obtain⟨h1,h2,_⟩:=(zu (a.take x) (b.take y)).bound
 rw[List.length_take,List.length_take] at h1 h2
 unfold EE
 have p:=zlc x a.length
 have q:=zlc y b.length
 generalize zm (a.take x) (b.take y)=D at *
 generalize min x a.length=i at *
 generalize min y b.length=j at *
 generalize x-a.length=u at *
 generalize y-b.length=v at *
 constructor
 ·exact zlw 1840206988433998670291057942660657852589933096 rfl h1 p q
 ·exact zlw 2194231313148952624842808532845119231819907624 rfl h2 p q
theorem z5z (a b:Tx):EE a b a.length b.length=zm a b:=by rw[ze4 (Nat.le_refl _) (Nat.le_refl _),List.take_length,List.take_length]
theorem zoz {a b:Tx}{x y:Nat} (h1:a.length<x) (h2:y≤b.length):zm a b+x+y≤EE a b x y+a.length+b.length:=by
 have h:=zau a (b.take y) [] (b.drop y)
 rw[List.append_nil,List.take_append_drop] at h
 have e:zm [] (b.drop y)=b.length-y:=List.length_drop
 rw[e] at h
 unfold EE
 rw[List.take_of_length_le (Nat.le_of_lt h1)]
 exact z5a 43922126548520057534845897936448562479964543925822816808 rfl h (Nat.sub_add_cancel (zc 4952567644713 rfl h1)) (Nat.sub_add_cancel (zc 4952567644712 rfl h2))
theorem zur {a b:Tx}{x y:Nat} (h1:x≤a.length) (h2:b.length<y):zm a b+x+y≤EE a b x y+a.length+b.length:=by
 have:=zoz (a:=b) (b:=a) h2 h1
 rw[zgi,zpa] at this;exact zk8 22146171676210509286945905120496362536 rfl this
theorem zu9 {a b:Tx}{x y:Nat} (h1:a.length<x) (h2:b.length<y):zm a b+2≤EE a b x y:=by
 unfold EE
 rw[List.take_of_length_le (Nat.le_of_lt h1),List.take_of_length_le (Nat.le_of_lt h2)];exact zlw 15075689183563529448874361660059506726106141622825 rfl h1 h2 (Nat.sub_add_cancel (zc 4952567644713 rfl h1)) (Nat.sub_add_cancel (zc 4952567644713 rfl h2))
theorem tri {a b:Tx}{x y:Nat} (h1:x≤a.length) (h2:y≤b.length):zm a b≤EE a b x y+RR a b x y:=by
 have:=zau (a.take x) (b.take y) (a.drop x) (b.drop y)
 rw[List.take_append_drop,List.take_append_drop] at this
 rw[ze4 h1 h2];exact this
theorem zvm {a b:Tx}{x y:Nat} (h:x<a.length):RR a b x y≤RR a b (x+1) y+1:=by
 unfold RR
 have:=zau [a[x]] [] (a.drop (x+1)) (b.drop y)
 rw[zhu] at this
 rw[List.drop_eq_getElem_cons h]
 exact ntr this (Nat.le_of_eq (Nat.add_comm ..))
theorem zv9 (a b:Tx) (x y:Nat):RR a b x y=RR b a y x:=zgi _ _
theorem z7t {a b:Tx}{x y:Nat} (h:y<b.length):RR a b x y≤RR a b x (y+1)+1:=by rw[zv9,zv9 a b x];exact zvm h
theorem z2h {a b:Tx}{x y:Nat} (h1:x<a.length) (h2:y<b.length) (e:a[x]=b[y]):RR a b x y≤RR a b (x+1) (y+1):=by
 unfold RR
 have:=zau [a[x]] [b[y]] (a.drop (x+1)) (b.drop (y+1))
 rw[e,zeb,Nat.zero_add] at this
 rw[List.drop_eq_getElem_cons h1,List.drop_eq_getElem_cons h2,e]
 exact this
theorem z38 (a b:Tx) {x y:Nat} (h1:x<a.length) (h2:y<b.length):RR a b (x+1) (y+1)≤RR a b x y:=by
 unfold RR
 rw[List.drop_eq_getElem_cons h1,List.drop_eq_getElem_cons h2]
 exact zwm _ _ _ _
theorem zvf (a b:Tx) {x y:Nat}: ∀t:Nat,x+t≤a.length→y+t≤b.length→RR a b (x+t) (y+t)≤RR a b x y
 | 0,_,_=>Nat.le_refl _
 | t+1,h1,h2=>ntr (z38 a b (x:=x+t) (y:=y+t) (by trivial) (by trivial)) (zvf a b t (by exact Nat.le_of_lt ‹_›) (by exact zf 10076579480013890393128 rfl h2))
theorem zql {a b:Tx}{x y:Nat} (h1:x≤a.length) (h2:y≤b.length):a.length+y≤b.length+x+RR a b x y∧b.length+x≤a.length+y+RR a b x y:=by
 obtain⟨h3,h4,_⟩:=(zu (a.drop x) (b.drop y)).bound
 rw[List.length_drop,List.length_drop] at h3 h4
 unfold RR
 generalize zm (a.drop x) (b.drop y)=D at *
 obtain⟨u,hu⟩: ∃u,a.length=x+u:=⟨_,(Nat.add_sub_cancel' h1).symm⟩
 obtain⟨v,hv⟩: ∃v,b.length=y+v:=⟨_,(Nat.add_sub_cancel' h2).symm⟩
 rw[hu,hv,Nat.add_sub_cancel_left,Nat.add_sub_cancel_left] at h3 h4
 rw[hu,hv]
 clear hu hv h1 h2
 constructor
 ·exact za9 10899182336477965870402481291816 rfl h3
 ·exact za9 10899182336477965870402481291816 rfl h4
theorem zyv {d:Nat}{c e:Char}{u v:Tx} (k:Ed d (c::u) (e::v)):(c=e∧∃d',d'≤d∧Ed d' u v)∨(∃d',d=d'+1∧Ed d' u (e::v))∨(∃d',d=d'+1∧Ed d' (c::u) v):=by
 cases k with
 | eq _ k=>exact .inl ⟨rfl,_,Nat.le_refl _,k⟩
 | del _ k=>exact .inr (.inl ⟨_,rfl,k⟩)
 | ins _ k=>exact .inr (.inr ⟨_,rfl,k⟩)
theorem z2a {a b:Tx}: ∀{x y:Nat},x≤a.length→y≤b.length→(x=0∧y=0)∨
  (∃x' y',x=x'+1∧y=y'+1∧∃(h1:x'<a.length) (h2:y'<b.length),a[x']=b[y']∧EE a b x' y'≤EE a b x y)∨(∃x',x=x'+1∧EE a b x' y+1≤EE a b x y)∨(∃y',y=y'+1∧EE a b x y'+1≤EE a b x y)
 | 0,0,_,_=> .inl ⟨rfl,rfl⟩
 | 0,y+1,h1,h2=> .inr (.inr (.inr ⟨y,rfl,by
   simp only[ze4 h1 h2,ze4 h1 (Nat.le_of_succ_le h2),List.take_zero]
   simp only[zll,zll,List.length_take,List.length_take];lia⟩))
 | x+1,0,h1,h2=> .inr (.inr (.inl ⟨x,rfl,by
   simp only[ze4 h1 h2,ze4 (Nat.le_of_succ_le h1) h2,List.take_zero,zbf,zbf,List.length_take,List.length_take];lia⟩))
 | x+1,y+1,h1,h2=>by
  have k:=(zu (a.take (x+1)) (b.take (y+1))).rev
  rw[←ze4 h1 h2,yW h1,yW h2,List.reverse_append,List.reverse_append] at k
  replace k:Ed _ (a[x]::(a.take x).reverse) (b[y]::(b.take y).reverse):=k
  rcases zyv k with ⟨e,d',hd,k⟩ | ⟨d',hd,k⟩ | ⟨d',hd,k⟩
  ·refine .inr (.inl ⟨x,y,rfl,rfl,h1,h2,e,?_⟩)
   have:=zaa _ _ k
   rw[zp] at this
   rw[ze4 (Nat.le_of_lt h1) (Nat.le_of_lt h2)]
   exact ntr this hd
  ·refine .inr (.inr (.inl ⟨x,rfl,?_⟩))
   have:=zaa _ _ k.rev
   rw[List.reverse_cons,List.reverse_reverse,List.reverse_reverse,←yW h2] at this
   rw[hd,ze4 (Nat.le_of_lt h1) h2]
   exact Nat.succ_le_succ this
  ·refine .inr (.inr (.inr ⟨y,rfl,?_⟩))
   have:=zaa _ _ k.rev
   rw[List.reverse_cons,List.reverse_reverse,List.reverse_reverse,←yW h1] at this
   rw[hd,ze4 h1 (Nat.le_of_lt h2)]
   exact Nat.succ_le_succ this
theorem mid {a b:Tx}{e:Nat} (h:e≤zm a b): ∃x y,x≤a.length∧y≤b.length∧EE a b x y≤e∧RR a b x y≤zm a b-e:=by
 refine bc fun z9=>?_
 obtain⟨x,y,h1,h2,h3,h4⟩:=(zu a b).split e h
 refine z9 ?_
 exact⟨x,y,h1,h2,by rw[ze4 h1 h2];exact zaa _ _ h3,zaa _ _ h4⟩
theorem zzu {a b:Tx}{x y:Nat} (h1:x≤a.length) (h2:y≤b.length):EE a.reverse b.reverse x y=RR a b (a.length-x) (b.length-y):=by
 rw[ze4 (by rw[List.length_reverse];exact h1) (by rw[List.length_reverse];exact h2)]
 unfold RR
 rw[←zp,List.reverse_take,List.reverse_take,List.reverse_reverse,List.reverse_reverse,List.length_reverse,List.length_reverse]
theorem z5i {a b:Tx}{x y:Nat} (h1:x≤a.length) (h2:y≤b.length):RR a.reverse b.reverse x y=EE a b (a.length-x) (b.length-y):=by
 rw[ze4 (Nat.sub_le ..) (Nat.sub_le ..)]
 unfold RR
 rw[List.drop_reverse,List.drop_reverse,zp]
noncomputable def Gd (a b:Tx) (d:Nat) (k v:Int):Prop:= ∃x y:Nat,v=x∧k=(x:Int)-y∧EE a b x y≤d
theorem Gd.mono {a b:Tx}{d e:Nat}{k v:Int} (h:Gd a b d k v) (q:d≤e):Gd a b e k v:=let ⟨x,y,h1,h2,h3⟩:=h;⟨x,y,h1,h2,ntr h3 q⟩
theorem Gd.less {a b:Tx}{d:Nat}{k v:Int} (h:Gd a b (d+1) k v) (q:(k-d)%2=0):Gd a b d k v:=by
 obtain⟨x,y,h1,h2,h3⟩:=h
 obtain⟨t,ht⟩:=zrd a b x y
 exact⟨x,y,h1,h2,by grind⟩
noncomputable def Snd (a b:Tx) (d:Nat) (p:Int) (f:Int→Int):Prop:= ∀k,f k=-1∨Gd a b d k (f k)∨(k=1∧(d=0∨(d=1∧p≤1)))
noncomputable def Fu (a b:Tx) (d:Nat) (f:Int→Int):Prop:= ∀x y:Nat,x≤a.length→y≤b.length→EE a b x y≤d→d+RR a b x y≤zm a b→(x:Int)≤f ((x:Int)-y)
noncomputable def up (f:Int→Int) (k v:Int):Int→Int:=fun j=>if j=k then v else f j
theorem zih (f:Int→Int) (k v:Int):up f k v k=v:=if_pos rfl
theorem zrs (f:Int→Int) {k j:Int} (v:Int) (h:j≠k):up f k v j=f j:=if_neg h
noncomputable def pick (d:Nat) (k:Int) (f:Int→Int):Int:=if k=-(d:Int)∨(k≠d∧f (k-1)<f (k+1)) then f (k+1) else f (k-1)+1
structure Snake (a b:Tx) (x y:Nat) (x1 y1:Nat):Prop where
 same:(x1:Int)-y1=(x:Int)-y
 le:x≤x1
 cost:EE a b x1 y1≤EE a b x y
 stop: ∀(h1:x1<a.length) (h2:y1<b.length),a[x1]≠b[y1]
theorem ztv {a b:Tx}{d:Nat}{k:Int}{f:Int→Int} (hk:(k-(d+1:Nat))%2=0) (h1:k≠-(d+1:Nat)→f (k-1)=-1∨Gd a b (d+1) (k-1) (f (k-1))) (h2:k≠(d+1:Nat)→f (k+1)=-1∨Gd a b (d+1) (k+1) (f (k+1)))
  (a1:k=-(d+1:Nat)→f (k+1)≠-1) (a2:k=(d+1:Nat)→f (k-1)≠-1) (a3:f (k-1)≠-1∨f (k+1)≠-1):
  ∃x y:Nat,pick (d+1) k f=x∧k=(x:Int)-y∧EE a b x y≤d+1∧(k≠-(d+1:Nat)→f (k-1)+1≤x)∧(k≠(d+1:Nat)→f (k+1)≤x):=by
 have up1:Gd a b (d+1) (k+1) (f (k+1))→∃x y:Nat,f (k+1)=x∧k=(x:Int)-y∧EE a b x y≤d+1:=fun g=>by
  refine bc fun z9=>?_
  obtain⟨x,y,e1,e2,e3⟩:=g.less (by grind)
  refine z9 ?_
  exact⟨x,y+1,e1,by exact Int.le_antisymm (yR 19988081808267712662731756578 rfl e2) (yR 2632036967722445634980083235 rfl e2),ntr (z12 a b x y) (Nat.succ_le_succ e3)⟩
 have up2:Gd a b (d+1) (k-1) (f (k-1))→∃x y:Nat,f (k-1)+1=x∧k=(x:Int)-y∧EE a b x y≤d+1:=fun g=>by
  refine bc fun z9=>?_
  obtain⟨x,y,e1,e2,e3⟩:=g.less (by lia)
  refine z9 ?_
  exact⟨x+1,y,by exact Int.le_antisymm (zbm 295540000168730362402 rfl e1) (zbm 295510447941875146275 rfl e1),by exact Int.le_antisymm (yR 24468684377863604954889983522 rfl e2) (yR 2667041675297413547807536675 rfl e2),ntr (zpt a b x y) (Nat.succ_le_succ e3)⟩
 have nn1: ∀{j:Int},f j=-1∨Gd a b (d+1) j (f j)→-1≤f j:=fun q=>by
  rcases q with q | ⟨x,_,e,_⟩<;>grind
 unfold pick
 by_cases c1:k=-((d+1:Nat):Int)
 ·rw[if_pos (.inl c1)]
  refine bc fun z9=>?_
  obtain⟨x,y,e1,e2,e3⟩:=up1 ((h2 (by(clear hk;omega))).resolve_left (a1 c1))
  refine z9 ?_
  exact⟨x,y,e1,e2,e3,fun q=>absurd c1 q,fun _=>by exact zbm 66008279613986 rfl e1⟩
 ·by_cases c2:k=((d+1:Nat):Int)
  ·rw[if_neg (by rintro (q | q);exact c1 q;exact q.1 c2)]
   refine bc fun z9=>?_
   obtain⟨x,y,e1,e2,e3⟩:=up2 ((h1 c1).resolve_left (a2 c2))
   refine z9 ?_
   exact⟨x,y,e1,e2,e3,fun _=>by exact zbm 69463875795829134370 rfl e1,fun q=>absurd c2 q⟩
  ·have n1:=nn1 (h1 c1)
   have n2:=nn1 (h2 c2)
   by_cases c3:f (k-1)<f (k+1)
   ·rw[if_pos (.inr ⟨c2,c3⟩)]
    refine bc fun z9=>?_
    obtain⟨x,y,e1,e2,e3⟩:=up1 ((h2 c2).resolve_left (by(clear hk h1 h2 a1 a2 c1 c2 n2;omega)))
    refine z9 ?_
    exact⟨x,y,e1,e2,e3,fun _=>by exact z8e 569048070519436807307809 rfl c3 e1,fun _=>by exact zbm 66008279613986 rfl e1⟩
   ·rw[if_neg (by rintro (q | q);exact c1 q;exact c3 q.2)]
    refine bc fun z9=>?_
    obtain⟨x,y,e1,e2,e3⟩:=up2 ((h1 c1).resolve_left (by rcases a3 with q | q;exact q;grind))
    refine z9 ?_
    exact⟨x,y,e1,e2,e3,fun _=>by exact zbm 69463875795829134370 rfl e1,fun _=>by exact z8e 567006804445399129588260 rfl c3 e1⟩
theorem z35 {a b:Tx}{e x y:Nat}{f:Int→Int}{x1:Nat} (hf:Fu a b e f) (hx:x+1≤a.length) (hy:y≤b.length) (c:EE a b x y+1≤EE a b (x+1) y) (he:EE a b (x+1) y≤e+1) (hr:e+1+RR a b (x+1) y≤zm a b)
  (h:(x:Int)+1-y≠-((e+1:Nat):Int)→f ((x:Int)-y)+1≤x1):x+1≤x1:=by
 have hR:=zvm (b:=b) (y:=y) hx
 have c':=Nat.le_of_succ_le_succ (ntr c he)
 have q:=hf x y (Nat.le_of_succ_le hx) hy c' (by exact zP 87190983939215686375780735034408 rfl hr hR)
 have hb:=(zgy a b x y).2
 have:=h (by(clear hx;lia))
 exact yR 2804731771948837256762498592 rfl q this
theorem z4l {a b:Tx}{e x y:Nat}{f:Int→Int}{x1:Nat} (hf:Fu a b e f) (hx:x≤a.length) (hy:y+1≤b.length) (c:EE a b x y+1≤EE a b x (y+1)) (he:EE a b x (y+1)≤e+1) (hr:e+1+RR a b x (y+1)≤zm a b)
  (h:(x:Int)-(y+1:Nat)≠((e+1:Nat):Int)→f ((x:Int)-y)≤x1):x≤x1:=by
 have hR:=z7t (a:=a) (x:=x) hy
 have c':=Nat.le_of_succ_le_succ (ntr c he)
 have q:=hf x y hx (Nat.le_of_succ_le hy) c' (by exact zP 87190983939215686375780735034408 rfl hr hR)
 have hb:=(zgy a b x y).1
 have:=h (by grind)
 exact yR 2658889538684704005664 rfl q this
theorem z4y {a b:Tx}{x0 y0 x1 y1 x y:Nat} (hs:Snake a b x0 y0 x1 y1) (hk:(x:Int)-y=(x0:Int)-y0) (g1:x<a.length) (g2:y<b.length) (e:a[x]=b[y]) (ih:x≤x1):x+1≤x1:=by
 rcases Nat.lt_or_eq_of_le ih with q | rfl
 ·exact q
 ·have:=hs.same
  have q2:y=y1:=Nat.le_antisymm (za9 2824017669364544979226860131778803332643 rfl hk this) (za9 787640623210959434351751914559952188962 rfl hk this)
  subst q2
  exact absurd e (hs.stop g1 g2)
theorem z8y {a b:Tx}{d:Nat}{k:Int}{f:Int→Int}{x0 y0 x1 y1:Nat} (hs:Snake a b x0 y0 x1 y1) (hk:k=(x0:Int)-y0)
  (hf: ∀e,d=e+1→Fu a b e f) (h1:0<d→k≠-(d:Int)→f (k-1)+1≤x0) (h2:0<d→k≠d→f (k+1)≤x0) (x:Nat):
  ∀y:Nat,x≤a.length→y≤b.length→(x:Int)-y=k→EE a b x y≤d→d+RR a b x y≤zm a b→x≤x1:=by
 have h01:(x0:Int)≤x1:=Int.ofNat_le.mpr hs.le
 have up: ∀{x y:Nat},x≤a.length→y+1≤b.length→(x:Int)-(y+1:Nat)=k→EE a b x y+1≤EE a b x (y+1)→EE a b x (y+1)≤d→d+RR a b x (y+1)≤zm a b→x≤x1:=fun {x y} hx hy hxy c he hr=>by
  cases d with
  | zero=>exact absurd (ntr c he) (Nat.not_succ_le_zero _)
  | succ e=>
   refine z4l (hf e rfl) hx hy c he hr fun q=>Int.le_trans ?_ h01
   have:=h2 (Nat.succ_pos _) (hxy▸q)
   rwa [show k+1=(x:Int)-y by exact Int.le_antisymm (yR 24453964948598006460217754147 rfl hxy) (yR 19831405713913812872727688738 rfl hxy)] at this
 induction x with
 | zero=>exact fun _ _ _ _ _ _=>Nat.zero_le _
 | succ x ih=>
  intro y hx hy hxy he hr
  rcases z2a hx hy with ⟨q,_⟩ | ⟨x',y',q,rfl,g1,g2,e,c⟩ | ⟨x',q,c⟩ | ⟨y',rfl,c⟩
  ·cases q
  ·cases q
   exact z4y hs (by rw[←hk,←hxy];exact Int.le_antisymm (zc 2382766745651509261872 rfl) (zc 2915139790448206640688 rfl)) g1 g2 e (ih y' (Nat.le_of_lt g1) (Nat.le_of_lt g2) (by exact Int.le_antisymm (yR 2666926688937112777922016802 rfl hxy) (yR 24453962907359783585222165027 rfl hxy)) (ntr c he) (ntr (Nat.add_le_add_left (z2h g1 g2 e) d) hr))
  ·cases q
   cases d with
   | zero=>exact absurd (ntr c he) (Nat.not_succ_le_zero _)
   | succ e=>
    refine z35 (hf e rfl) hx hy c he hr fun q=>Int.le_trans ?_ h01
    have:=h1 (Nat.succ_pos _) (by(clear hk hx;lia))
    rwa [show k-1=(x:Int)-y by exact Int.le_antisymm (yR 24453964948886244795518485027 rfl hxy) (yR 19833823565553042193257952802 rfl hxy)] at this
  ·exact up hx hy hxy c he hr
structure Pre (a b:Tx) (d:Nat) (f:Int→Int) (ks ke:Nat):Prop where
 ev:ks%2=0∧ke%2=0
 ti: ∀k:Int,(k-d)%2=0→(d:Int)-ke<k→k≤d→(zm a b:Int)+(a.length-b.length)+2≤d+k
 bi: ∀k:Int,(k-d)%2=0→k < -(d:Int)+ks→-(d:Int)≤k→(zm a b:Int)-(a.length-b.length)+2≤d-k
 z:d=0→f 1=0∧(∀k,k≠1→f k=-1)
 lo:d≤1→ks=0∧ke=0
 s: ∀e,d=e+1→(∀k,f k=-1∨Gd a b e k (f k)∨(k=1∧e=0))∧Fu a b e f∧∃lo hi:Int,lo≤hi∧(lo-e)%2=0∧(hi-e)%2=0∧lo-1≤-(d:Int)+ks∧(d:Int)-ke≤hi+1∧
  (ks=0→lo=-(e:Int))∧(ke=0→hi=e)∧∀k,lo≤k→k≤hi→(k-e)%2=0→f k≠-1
structure Sw (a b:Tx) (d:Nat) (f0:Int→Int) (ks0 ke0:Nat) (p:Int) (f:Int→Int) (ks ke:Nat):Prop where
 par:(p-d)%2=0
 lo:-(d:Int)+ks0≤p
 old: ∀k,(p≤k∨(k-d)%2≠0)→f k=f0 k
 snd:Snd a b d p f
 cmp: ∀k,-(d:Int)+ks0≤k→k<p→(k-d)%2=0→f k≠-1
 fu: ∀x y:Nat,x≤a.length→y≤b.length→EE a b x y≤d→d+RR a b x y≤zm a b→-(d:Int)+ks0≤(x:Int)-y→(x:Int)-y<p→((x:Int)-y-d)%2=0→(x:Int)≤f ((x:Int)-y)
 top: ∃r:Nat,ke=ke0+2 * r∧(0<r→(zm a b:Int)+(a.length-b.length)+2≤d+(p-2 * r))
 bot: ∃r:Nat,ks=ks0+2 * r∧-(d:Int)+ks0+2 * r≤p∧(0<r→(zm a b:Int)-(a.length-b.length)+2≤d-(-(d:Int)+ks0+2 * r-2))
theorem Pre.snd0 {a b:Tx}{d:Nat}{f:Int→Int}{ks ke:Nat} (P:Pre a b d f ks ke):Snd a b d (-(d:Int)+ks) f:=fun k=>by
 cases d with
 | zero=>
  obtain⟨h1,h2⟩:=P.z rfl
  by_cases q:k=1
  ·exact .inr (.inr ⟨q,.inl rfl⟩)
  ·exact .inl (h2 k q)
 | succ e=>
  rcases (P.s e rfl).1 k with q | q | ⟨q,rfl⟩
  ·exact .inl q
  ·exact .inr (.inl (q.mono (Nat.le_succ e)))
  ·exact .inr (.inr ⟨q,.inr ⟨rfl,by have:=P.lo (Nat.le_refl _);exact zw 2365524718012950643242 rfl this.1⟩⟩)
theorem Sw.start {a b:Tx}{d:Nat}{f:Int→Int}{ks ke:Nat} (P:Pre a b d f ks ke):Sw a b d f ks ke (-(d:Int)+ks) f ks ke where
 par:=by have:=P.ev;grind
 lo:=Int.le_refl _
 old:=fun _ _=>rfl
 snd:=P.snd0
 cmp:=fun k h1 h2=>absurd h2 (Int.not_lt.mpr h1)
 fu:=fun x y _ _ _ _ h1 h2 _=>absurd h2 (Int.not_lt.mpr h1)
 top:=⟨0,rfl,fun h=>absurd h (Nat.lt_irrefl _)⟩
 bot:=⟨0,rfl,by exact zc 186569865410149512848432 rfl,fun h=>absurd h (Nat.lt_irrefl _)⟩
theorem Sw.pick {a b:Tx}{d:Nat}{f0 f:Int→Int}{ks0 ke0 ks ke:Nat}{p:Int} (P:Pre a b d f0 ks0 ke0) (S:Sw a b d f0 ks0 ke0 p f ks ke) (hp:p≤(d:Int)-ke0):
  ∃x y:Nat,Mine.Internal.pick d p f=x∧p=(x:Int)-y∧EE a b x y≤d∧(0<d→p≠-(d:Int)→f0 (p-1)+1≤x)∧(0<d→p≠d→f0 (p+1)≤x):=by
 have hpar:=S.par
 have hlo:=S.lo
 have o1:f (p+1)=f0 (p+1):=S.old _ (.inl (by exact zsc 537526832 rfl))
 have o2:f (p-1)=f0 (p-1):=S.old _ (.inr (by(clear hp hlo o1;omega)))
 cases d with
 | zero=>
  have:=P.lo (Nat.zero_le _)
  have hp0:p=0:=Int.le_antisymm (zbm 307871312708128 rfl hp) (zbm 288441517247554592 rfl hlo)
  subst hp0
  refine⟨0,0,?_,rfl,?_,fun h=>absurd h (Nat.lt_irrefl _),fun h=>absurd h (Nat.lt_irrefl _)⟩
  ·unfold Mine.Internal.pick
   rw[if_pos (.inl rfl),o1];exact(P.z rfl).1
  ·rw[ze4 (Nat.zero_le _) (Nat.zero_le _)];exact Nat.le_of_eq (zeb [])
 | succ e=>
  refine bc fun z9=>?_
  obtain⟨q1,q2,lo,hi,g1,g2,g3,g4,g5,g6,g7,g8⟩:=P.s e rfl
  refine z9 ?_
  have gd: ∀j,(j=p-1∨j=p+1)→f0 j=-1∨Gd a b (e+1) j (f0 j):=fun j hj=>by
   rcases q1 j with q | q | ⟨q,rfl⟩
   ·exact .inl q
   ·exact .inr (q.mono (Nat.le_succ e))
   ·have:=P.lo (Nat.le_refl _)
    exfalso;(clear o1 o2 g1 hp hlo g2 g3 g4 g5 g6 g7 this;omega)
  have:=ztv (a:=a) (b:=b) (d:=e) (k:=p) (f:=f) hpar (fun _=>by rw[o2];exact gd _ (.inl rfl)) (fun _=>by rw[o1];exact gd _ (.inr rfl))
   (fun h=>by rw[o1];exact g8 _ (by exact ztn 11164080596882422169180234262535350931678240 rfl hlo g4) (by have:=g6 (by exact Nat.le_antisymm (yR 11547659636155226315996562973728 rfl hlo h) (zw 65592 rfl));exact z66 1505941143619815763227638748267741728 rfl g1 h this) (by(clear o1 o2 hp hlo g1 g2 g3 g4 g5 g6 g7 h;lia)))
   (fun h=>by rw[o2];exact g8 _ (by have:=g7 (by exact Nat.le_antisymm (yR 180430081871860799641105400352 rfl hp h) (zw 65592 rfl));exact z66 21121615965522805767492472058479136 rfl g1 h this) (by exact ztn 197365616099994904563628024995286678700576 rfl hp g5) (by lia))
   (by
    rw[o1,o2]
    by_cases c:lo≤p-1
    ·exact .inl (g8 _ c (by exact ztn 197365616099994904563628024995286678700576 rfl hp g5) (by lia))
    ·exact .inr (g8 _ (by exact ztn 11164080596882422169180234262535350931678240 rfl hlo g4) (by(clear o1 o2 hp hlo g2 g4 g5 g6 g7;omega)) (by grind)))
  refine bc fun z9=>?_
  obtain⟨x,y,e1,e2,e3,e4,e5⟩:=this
  refine z9 ?_
  rw[o1] at e5
  rw[o2] at e4
  exact⟨x,y,e1,e2,e3,fun _=>e4,fun _=>e5⟩
noncomputable def ke' (a:Tx) (x1 ke:Nat):Nat:=if a.length<x1 then ke+2 else ke
noncomputable def ks' (a b:Tx) (x1 y1 ks:Nat):Nat:=if a.length<x1 then ks else if b.length<y1 then ks+2 else ks
theorem Sw.turn {a b:Tx}{d:Nat}{f0 f:Int→Int}{ks0 ke0 ks ke:Nat}{p:Int}{x y x1 y1:Nat} (P:Pre a b d f0 ks0 ke0) (hD:2 * d≤zm a b+1) (S:Sw a b d f0 ks0 ke0 p f ks ke)
  (e2:p=(x:Int)-y) (e3:EE a b x y≤d) (e4:0<d→p≠-(d:Int)→f0 (p-1)+1≤x) (e5:0<d→p≠d→f0 (p+1)≤x) (hs:Snake a b x y x1 y1):
  Sw a b d f0 ks0 ke0 (p+2) (up f p x1) (ks' a b x1 y1 ks) (ke' a x1 ke) where
 par:=by have:=S.par;(clear e2;grind)
 lo:=by have:=S.lo;exact yR 2477402896462062375768941600 rfl this
 old:=fun k h=>by
  have hpar:=S.par
  have:k≠p:=by(clear hD e3 e4 e5;lia)
  rw[zrs _ _ this];exact S.old k (by(clear hD e2 e3 e4 e5 hpar this;lia))
 snd:=fun k=>by
  by_cases q:k=p
  ·subst q
   rw[zih]
   exact .inr (.inl ⟨x1,y1,rfl,by have:=hs.same;exact Int.le_antisymm (z65 2202690463239954970122130690744856019490 rfl e2 this) (z65 102279111839875982514860801733314016803 rfl e2 this),ntr hs.cost e3⟩)
  ·rw[zrs _ _ q]
   rcases S.snd k with h | h | ⟨rfl,h⟩
   ·exact .inl h
   ·exact .inr (.inl h)
   ·refine .inr (.inr ⟨rfl,?_⟩)
    have hpar:=S.par
    (clear hD e2 e3 e4 e5;grind)
 cmp:=fun k h1 h2 h3=>by
  by_cases q:k=p
  ·subst q;rw[zih];grind
  ·rw[zrs _ _ q]
   have hpar:=S.par
   exact S.cmp k h1 (by(clear hD e2 e3 e4 e5 h1;grind)) h3
 fu:=fun u v h1 h2 h3 h4 h5 h6 h7=>by
  by_cases q:(u:Int)-v=p
  ·rw[q,zih]
   exact Int.ofNat_le.mpr (z8y hs e2 (fun e he=>(P.s e he).2.1) e4 e5 u v h1 h2 q h3 h4)
  ·rw[zrs _ _ q]
   have hpar:=S.par
   exact S.fu u v h1 h2 h3 h4 h5 (by(clear hD e2 e3 e4 e5 h1 h2 h3 h4 h5;grind)) h7
 top:=by
  refine bc fun z9=>?_
  obtain⟨r,h1,h2⟩:=S.top
  refine z9 ?_
  unfold ke'
  split
  ·rename_i c
   refine⟨r+1,by exact Nat.le_antisymm (zf 80564333245858715563331289642 rfl h1) (zf 159791589068064185193475347499 rfl h1),fun _=>?_⟩
   by_cases q:0<r
   ·have:=h2 q;exact z9a 106194684616592901544315286006403542598652907109951059182199840 rfl this
   ·have hc:=hs.cost
    have hsame:=hs.same
    have:y1≤b.length:=by
     rcases Nat.lt_or_ge b.length y1 with z | z
     ·have:=zu9 (a:=a) (b:=b) c z;exact(zP 130459395593825341524820638526679080 rfl hD e3 hc this).elim
     ·exact z
    have:=zoz (a:=a) (b:=b) c this
    exact z8h 41301376506465670197209972954111585328172020627173449898991070524076030607744077720619155318866228280462591437895203 rfl e2 e3 c q hc hsame this
  ·exact⟨r,h1,fun q=>by have:=h2 q;exact z9a 425520375327330673682234225354363487328217870732077639902240 rfl this⟩
 bot:=by
  refine bc fun z9=>?_
  obtain⟨r,h1,h2,h3⟩:=S.bot
  refine z9 ?_
  unfold ks'
  split
  ·exact⟨r,h1,by exact za6 2723943698889653781031583956387881755680 rfl h2,h3⟩
  ·split
   ·rename_i c1 c2
    refine⟨r+1,by exact Nat.le_antisymm (zf 80564333245858715563331289642 rfl h1) (zf 159791589068064185193475347499 rfl h1),by exact za6 2789305375770406249943284107960308616602656 rfl h2,fun _=>?_⟩
    have hc:=hs.cost
    have hsame:=hs.same
    have:=zur (a:=a) (b:=b) (Nat.le_of_not_lt c1) c2
    exact z72 5838340966454961253020087265359347076702113984324894251796116047100715450829194567877406909271112877593169723420748374587959372913771042 rfl e2 e3 h2 c2 hc hsame this
   ·exact⟨r,h1,by exact za6 2723943698889653781031583956387881755680 rfl h2,h3⟩
theorem Pre.within {a b:Tx}{d:Nat}{f:Int→Int}{ks ke:Nat} (P:Pre a b d f ks ke) {x y:Nat} (h1:x≤a.length) (h2:y≤b.length) (h3:EE a b x y≤d) (h4:d+RR a b x y≤zm a b) (h5:((x:Int)-y-d)%2=0):
  -(d:Int)+ks≤(x:Int)-y∧(x:Int)-y≤(d:Int)-ke:=by
 obtain⟨g1,g2⟩:=zgy a b x y
 obtain⟨g3,g4⟩:=zql h1 h2
 constructor
 ·rcases Int.lt_or_le ((x:Int)-y) (-(d:Int)+ks) with q | q
  ·have:=P.bi _ h5 q (by exact zP 354552276760808802712545722920 rfl h3 g2);exact(zlw 50769530041015024636335722666768252809784260970419240 rfl h4 g3 this).elim
  ·exact q
 ·rcases Int.lt_or_le ((d:Int)-ke) ((x:Int)-y) with q | q
  ·have:=P.ti _ h5 q (by exact zP 24511920007341661166559101480 rfl h3 g1);exact(zlw 74691388838056930851197615265450390244835811884799016 rfl h4 g4 this).elim
  ·exact q
theorem Pre.some {a b:Tx}{d:Nat}{f:Int→Int}{ks ke:Nat} (P:Pre a b d f ks ke) (hd:d≤zm a b):-(d:Int)+ks≤(d:Int)-ke:=by
 obtain⟨x,y,h1,h2,h3,h4⟩:=mid hd
 obtain⟨t,ht⟩:=zrd a b x y
 have h5:=tri h1 h2
 have:=P.within h1 h2 h3 (by exact zP 120935456244064318399250984 rfl h4 (Nat.sub_add_cancel (zc 4952567644712 rfl hd))) (by(clear h1 h2;lia))
 exact za9 792177802832753026680866159765476640624494095361056 rfl this.1 this.2
theorem Sw.all {a b:Tx}{d:Nat}{f0 f:Int→Int}{ks0 ke0 ks ke:Nat}{p:Int} (P:Pre a b d f0 ks0 ke0) (S:Sw a b d f0 ks0 ke0 p f ks ke) (hp:(d:Int)-ke0<p):Fu a b d f:=fun x y h1 h2 h3 h4=>by
 by_cases q:((x:Int)-y-d)%2=0
 ·obtain⟨w1,w2⟩:=P.within h1 h2 h3 h4 q
  exact S.fu x y h1 h2 h3 h4 w1 (Int.lt_of_le_of_lt w2 hp) q
 ·rw[S.old _ (.inr q)]
  obtain⟨t,ht⟩:=zrd a b x y
  cases d with
  | zero=>exfalso;grind
  | succ e=>exact(P.s e rfl).2.1 x y h1 h2 (by lia) (by exact zf 10076579480014422058024 rfl h4)
theorem z2c {d ks0 ke0 r u:Nat} (v1:ks0%2=0) (v2:ke0%2=0):(-(d:Int)+ks0-d)%2=0∧((d:Int)-ke0-d)%2=0∧-(d:Int)+ks0-1≤-((d+1:Nat):Int)+((ks0+2 * u:Nat):Int)∧((d+1:Nat):Int)-((ke0+2 * r:Nat):Int)≤(d:Int)-ke0+1∧
  (ks0+2 * u=0→-(d:Int)+ks0=-(d:Int))∧(ke0+2 * r=0→(d:Int)-ke0=d):=by
 refine⟨?_,?_,?_,?_,?_,?_⟩
 ·lia
 ·lia
 ·exact zf 42478232094512850753522968112 rfl
 ·exact zf 312470113906087909736674864 rfl
 ·lia
 ·lia
theorem Sw.done {a b:Tx}{d:Nat}{f0 f:Int→Int}{ks0 ke0 ks ke:Nat}{p:Int} (P:Pre a b d f0 ks0 ke0) (hd:d≤zm a b) (S:Sw a b d f0 ks0 ke0 p f ks ke) (hp:(d:Int)-ke0<p) (hp2:p≤(d:Int)-ke0+2∨p=-(d:Int)+ks0):Pre a b (d+1) f ks ke:=by
 have hn:=P.some hd
 have hpar:=S.par
 obtain⟨v1,v2⟩:=P.ev
 obtain⟨r,rfl,r2⟩:=S.top
 obtain⟨u,rfl,u2,u3⟩:=S.bot
 obtain⟨c1,c2,_⟩:=(zu a b).bound
 refine⟨⟨by rw[Nat.add_mul_mod_self_left];exact v1,by rw[Nat.add_mul_mod_self_left];exact v2⟩,?_,?_,(fun h=>nomatch h),?_,?_⟩
 ·intro k h1 h2 h3
  clear c1 c2 hpar
  by_cases q:0<r
  ·have:=r2 q;(clear hd h3 h1 v1 v2 u2 u3 r2;lia)
  ·obtain rfl:=Nat.eq_zero_of_not_pos q
   have:=P.ti (k-1) (by clear hd hp hp2 hn v1 v2 r2 u2 u3 h2 h3 q;lia) (by exact yR 2599658922384242089528984017925665 rfl h2) (by exact zbm 69463910983491060256 rfl h3)
   exact z65 12440863935380465208936444527121792478452013048864 rfl this
 ·intro k h1 h2 h3
  clear c1 c2 hpar
  by_cases q:0<u
  ·have:=u3 q;exact z3v 4031733603263623566331674682049658543522095631757364875995846954431359860031488545 rfl h2 this
  ·obtain rfl:=Nat.eq_zero_of_not_pos q
   have:=P.bi (k+1) (by clear hd hp hp2 hn v1 v2 r2 u2 u3 h2 h3 q;lia) (by exact yR 205135738613126713155154689496580641 rfl h2) (by exact zbm 18912559853810626165792 rfl h3)
   exact z65 12440865329177040117258847197837601317779361215520 rfl this
 ·intro h
  have hz:=P.lo (by exact zw 4508479251289128 rfl h)
  obtain⟨rfl,rfl⟩:=hz
  have hr:r=0:=by
   rcases Nat.eq_zero_or_pos r with q | q
   ·exact q
   ·have:=r2 q;(clear hd hn hpar v1 v2 r2 u2 u3 c1;lia)
  have hu:u=0:=by
   rcases Nat.eq_zero_or_pos u with q | q
   ·exact q
   ·have:=u3 q;exact Nat.le_antisymm (za9 26652773374332860321894634269589152301348609319971683964682792 rfl c1 h this) (zw 65592 rfl)
  subst hr hu
  exact⟨rfl,rfl⟩
 ·intro e he
  cases he
  obtain⟨w1,w2,w3,w4,w5,w6⟩:=z2c (d:=d) (r:=r) (u:=u) v1 v2
  refine⟨fun k=>?_,S.all P hp,-(d:Int)+ks0,(d:Int)-ke0,hn,w1,w2,w3,w4,w5,w6,fun k h1 h2 h3=>S.cmp k h1 (Int.lt_of_le_of_lt h2 hp) h3⟩
  rcases S.snd k with q | q | ⟨rfl,q⟩
  ·exact .inl q
  ·exact .inr (.inl q)
  ·refine .inr (.inr ⟨rfl,?_⟩)
   rcases q with q | ⟨q,q2⟩
   ·exact q
   ·subst q
    have:=P.lo (Nat.le_refl _)
    obtain⟨rfl,rfl⟩:=this
    exact Nat.le_antisymm ((zsc 36277540327260704 rfl q2 hp).elim) (zsk 524344 rfl)
structure Meet (a b:Tx) (x y:Nat):Prop where
 hx:x≤a.length
 hy:y≤b.length
 cost:EE a b x y+RR a b x y=zm a b
 lo:0<x+y
 hi:x+y<a.length+b.length
theorem zpf {a b:Tx}{d e:Nat}{x y u w:Nat} (h1:EE a b x y≤d) (h2:EE a.reverse b.reverse u w≤e) (hk:(a.length:Int)-b.length-((x:Int)-y)=(u:Int)-w) (hD:d+e≤zm a b):x≤a.length∧y≤b.length:=by
 obtain⟨g1,g2⟩:=zgy a.reverse b.reverse u w
 have g1:=ntr g1 (Nat.add_le_add_left h2 _)
 have g2:=ntr g2 (Nat.add_le_add_left h2 _)
 clear h2
 rcases Nat.lt_or_ge a.length x with q | q
 ·exfalso
  rcases Nat.lt_or_ge b.length y with q2 | q2
  ·have:=ntr (zu9 q q2) h1
   exact zf 649125621502841896 rfl hD this
  ·have:=zoz q q2
   generalize zm a b=D at *
   generalize EE a b x y=E at *
   exact zn7 1490058126492585934819521800481726535060472363320001378199920556249560356791318051 rfl hk g2 q hD h1 this
 ·refine⟨q,Nat.le_of_not_lt fun q2=>?_⟩
  have:=zur q q2
  generalize zm a b=D at *
  generalize EE a b x y=E at *
  exact zn7 534078637304140786034528383960457414706996254131093888254292188066343526666319394 rfl hk g1 q2 hD h1 this
theorem z9b {a b:Tx}{d e:Nat}{x y u w:Nat} (h1:EE a b x y≤d) (h2:EE a.reverse b.reverse u w≤e) (hk:(a.length:Int)-b.length-((x:Int)-y)=(u:Int)-w) (h3:(a.length:Int)-u≤x)
  (hD:d+e≤zm a b) (he:e<zm a b) (hd2:d<zm a b):Meet a b x y:=by
 obtain⟨hx,hy⟩:=zpf h1 h2 hk hD
 obtain⟨hu,hw⟩:=zpf (a:=a.reverse) (b:=b.reverse) (u:=x) (w:=y) h2 (by rw[List.reverse_reverse,List.reverse_reverse];exact h1) (by rw[List.length_reverse,List.length_reverse];exact Int.le_antisymm (zk8 1182560660065796484709724917775039147491138713122 rfl hk) (zk8 451096130356663665485918169149033208006664320547 rfl hk)) (by rw[zp,Nat.add_comm];exact hD)
 rw[List.length_reverse] at hu hw
 have hR:RR a b x y≤e:=by
  rw[zzu hu hw] at h2
  obtain⟨i,hi⟩: ∃i,a.length=i+u:=⟨_,(Nat.sub_add_cancel hu).symm⟩
  obtain⟨j,hj⟩: ∃j,b.length=j+w:=⟨_,(Nat.sub_add_cancel hw).symm⟩
  rw[hi,hj,Nat.add_sub_cancel,Nat.add_sub_cancel] at h2
  rw[hi,hj] at hk
  rw[hi] at h3
  obtain⟨t,rfl⟩: ∃t,x=i+t:=⟨x-i,by exact Nat.le_antisymm (zf 5265838744531501611 rfl (Nat.sub_add_cancel (zf 5020073061897600333344 rfl h3))) (zf 9804662326409303082 rfl (Nat.sub_add_cancel (zf 5020073061897600333344 rfl h3)))⟩
  obtain rfl:y=j+t:=Nat.le_antisymm (zk8 5772944999070864225983318027258301071996450 rfl hk) (zk8 7188393369127346915837065753104394605360675 rfl hk)
  exact ntr (zvf a b t hx hy) h2
 have ht:=tri hx hy
 refine⟨hx,hy,Nat.le_antisymm (ntr (Nat.add_le_add h1 hR) hD) ht,Nat.pos_of_ne_zero fun q=>?_,Nat.lt_of_le_of_ne (Nat.add_le_add hx hy) fun q=>?_⟩
 ·obtain⟨rfl,rfl⟩:=Nat.add_eq_zero_iff.mp q
  exact absurd (ntr (Nat.le_refl (zm a b)) hR) (Nat.not_le_of_lt he)
 ·obtain rfl:x=a.length:=Nat.le_antisymm hx (Nat.le_of_add_le_add_right (ntr (Nat.le_of_eq q.symm) (Nat.add_le_add_left hy _)))
  obtain rfl:=Nat.add_left_cancel q
  rw[z5z] at h1
  exact absurd h1 (Nat.not_le_of_lt hd2)
theorem meets {a b:Tx}{d e:Nat}{f g:Int→Int} (hD:zm a b=d+e) (hf:Fu a b d f) (hg:Fu a.reverse b.reverse e g):
  ∃x y:Nat,x≤a.length∧y≤b.length∧EE a b x y≤d∧RR a b x y≤e∧(x:Int)≤f ((x:Int)-y)∧(a.length:Int)-x≤g ((a.length:Int)-b.length-((x:Int)-y)):=by
 obtain⟨x,y,h1,h2,h3,h4⟩:=mid (a:=a) (b:=b) (e:=d) (by rw[hD];exact Nat.le_add_right ..)
 rw[hD,Nat.add_sub_cancel_left] at h4
 refine⟨x,y,h1,h2,h3,h4,hf x y h1 h2 h3 (by rw[hD];exact Nat.add_le_add_left h4 d),?_⟩
 have:=hg (a.length-x) (b.length-y) (by rw[List.length_reverse];exact Nat.sub_le ..) (by rw[List.length_reverse];exact Nat.sub_le ..)
  (by rw[zzu (Nat.sub_le ..) (Nat.sub_le ..),Nat.sub_sub_self h1,Nat.sub_sub_self h2];exact h4)
  (by rw[z5i (Nat.sub_le ..) (Nat.sub_le ..),Nat.sub_sub_self h1,Nat.sub_sub_self h2,zp,hD,Nat.add_comm];exact Nat.add_le_add_right h3 e)
 rw[Int.ofNat_sub h1,Int.ofNat_sub h2,show((a.length:Int)-x)-((b.length:Int)-y)=(a.length:Int)-b.length-((x:Int)-y) by exact Int.le_antisymm (zP 32812744668710890283574462232112 rfl) (zP 32812744668710890283574462232112 rfl)] at this
 exact this
structure Tab where
 f:Int→Int
 ks:Nat
 ke:Nat
noncomputable def tx (a b:Tx) (d:Nat) (p:Int) (f:Int→Int):Int:=pick d p f+lcp (a.drop (pick d p f).toNat) (b.drop (pick d p f-p).toNat)
noncomputable def step (a b:Tx) (d:Nat) (p:Int) (s:Tab):Tab:=
 ⟨up s.f p (tx a b d p s.f),ks' a b (tx a b d p s.f).toNat (tx a b d p s.f-p).toNat s.ks,ke' a (tx a b d p s.f).toNat s.ke⟩
noncomputable def Hit (a b:Tx) (off:Nat) (g:Int→Int) (p v:Int):Prop:=
 v≤a.length∧v-p≤b.length∧-(off:Int)≤(a.length:Int)-b.length-p∧(a.length:Int)-b.length-p<off∧g ((a.length:Int)-b.length-p)≠-1∧(a.length:Int)-g ((a.length:Int)-b.length-p)≤v
noncomputable def zfr (a b:Tx) (off d:Nat) (look:Bool) (g:Int→Int):Nat→Int→Tab→Option Int×Tab
 | 0,_,s=>(none,s)
 | n+1,p,s=>open Classical in if look=true∧Hit a b off g p (tx a b d p s.f) then(some p,step a b d p s) else zfr a b off d look g n (p+2) (step a b d p s)
theorem zje (a b:Tx) (x y:Nat):Snake a b x y (x+lcp (a.drop x) (b.drop y)) (y+lcp (a.drop x) (b.drop y)):=by
 have h:=zV (a.drop x) (b.drop y)
 rw[List.length_drop,List.length_drop] at h
 have main: ∀t,t≤lcp (a.drop x) (b.drop y)→EE a b (x+t) (y+t)≤EE a b x y:=by
  intro t
  induction t with
  | zero=>exact fun _=>Nat.le_refl _
  | succ t ih=>
   intro ht
   have h1:x+t<a.length:=Nat.add_lt_of_lt_sub' (ntr ht h.1)
   have h2:y+t<b.length:=Nat.add_lt_of_lt_sub' (ntr ht h.2)
   have e:=(yU (t+1) (a.drop x) (b.drop y) (ntr ht (zV _ _).1) (ntr ht (zV _ _).2)).mp ht
   have e2:a[x+t]=b[y+t]:=by
    have:=congrArg (fun l=>l[t]?) e
    simp only[List.getElem?_take,List.getElem?_drop] at this
    rw[if_pos (Nat.lt_succ_self t),if_pos (Nat.lt_succ_self t),List.getElem?_eq_getElem h1,List.getElem?_eq_getElem h2] at this
    exact Option.some.inj this
   exact ntr (zxz h1 h2 e2) (ih (Nat.le_of_succ_le ht))
 refine⟨by exact Int.le_antisymm (zf 5276323069266458146352 rfl) (zf 5039100425540475090480 rfl),Nat.le_add_right ..,main _ (Nat.le_refl _),fun h1 h2 e=>?_⟩
 have l1:lcp (a.drop x) (b.drop y)+1≤(a.drop x).length:=by rw[List.length_drop];exact Nat.le_sub_of_add_le' h1
 have l2:lcp (a.drop x) (b.drop y)+1≤(b.drop y).length:=by rw[List.length_drop];exact Nat.le_sub_of_add_le' h2
 have:=(yU _ (a.drop x) (b.drop y) l1 l2).mpr (by
  simp only[yW l1,yW l2,List.getElem_drop,List.getElem_drop,e,(yU _ _ _ (Nat.le_of_succ_le l1) (Nat.le_of_succ_le l2)).mp (Nat.le_refl _)])
 exact absurd this (Nat.not_succ_le_self _)
theorem zov {a b:Tx}{d:Nat}{f0:Int→Int}{ks0 ke0:Nat}{p:Int}{s:Tab} (P:Pre a b d f0 ks0 ke0) (hD:2 * d≤zm a b+1) (S:Sw a b d f0 ks0 ke0 p s.f s.ks s.ke) (hp:p≤(d:Int)-ke0):
  ∃x y x1 y1:Nat,pick d p s.f=x∧p=(x:Int)-y∧tx a b d p s.f=x1∧p=(x1:Int)-y1∧x1=x+lcp (a.drop x) (b.drop y)∧EE a b x1 y1≤d∧Sw a b d f0 ks0 ke0 (p+2) (step a b d p s).f (step a b d p s).ks (step a b d p s).ke:=by
 refine bc fun z9=>?_
 obtain⟨x,y,e1,e2,e3,e4,e5⟩:=S.pick P hp
 refine z9 ?_
 have hs:=zje a b x y
 have h1:pick d p s.f-p=y:=Int.le_antisymm (ztn 195768821082743581512848835106 rfl e1 e2) (ztn 178477630642889768439965556259 rfl e1 e2)
 have ht:tx a b d p s.f=((x+lcp (a.drop x) (b.drop y):Nat):Int):=by
  unfold tx;(rw[h1,e1];dsimp only[Int.toNat_natCast,Int.toNat_natCast];try with_reducible rfl);rfl
 have hy:tx a b d p s.f-p=((y+lcp (a.drop x) (b.drop y):Nat):Int):=by rw[ht];exact Int.le_antisymm (za6 42271000652164888154993653283 rfl e2) (za6 2804914249259621151326011938 rfl e2)
 refine⟨x,y,_,_,e1,e2,ht,by exact Int.le_antisymm (za6 42271038142489761479399244322 rfl e2) (za6 2806122564058985798748403235 rfl e2),rfl,ntr hs.cost e3,?_⟩
 have:=S.turn P hD e2 e3 e4 e5 hs
 unfold step
 dsimp only
 (rw[hy,ht];dsimp only[Int.toNat_natCast,Int.toNat_natCast];try with_reducible rfl)
 exact this
noncomputable def z6t (a b:Tx) (off d:Nat) (look:Bool) (g:Int→Int) (lo p:Int) (f:Int→Int):Prop:=look=true→∀k,lo≤k→k<p→(k-d)%2=0→¬Hit a b off g k (f k)
theorem zus (a b:Tx) (d:Nat) (p:Int) (s:Tab):(step a b d p s).f p=tx a b d p s.f:=zih ..
theorem zjq {a b:Tx}{off d:Nat}{g:Int→Int}{look:Bool}{n:Nat}{p:Int}{T:Tab} (c:look=true∧Hit a b off g p (tx a b d p T.f)):zfr a b off d look g (n+1) p T=(some p,step a b d p T):=if_pos c
theorem zfz {a b:Tx}{off d:Nat}{g:Int→Int}{look:Bool}{n:Nat}{p:Int}{T:Tab} (c: ¬(look=true∧Hit a b off g p (tx a b d p T.f))):zfr a b off d look g (n+1) p T=zfr a b off d look g n (p+2) (step a b d p T):=if_neg c
theorem zqs {a b:Tx}{off d:Nat}{look:Bool}{g f0:Int→Int}{ks0 ke0:Nat} (P:Pre a b d f0 ks0 ke0) (hD:2 * d≤zm a b+1): ∀(n:Nat) (p:Int) (s:Tab),Sw a b d f0 ks0 ke0 p s.f s.ks s.ke→
  z6t a b off d look g (-(d:Int)+ks0) p s.f→(0<n→p+2 * n≤(d:Int)-ke0+2)→
  match zfr a b off d look g n p s with
  | (none,s')=>Sw a b d f0 ks0 ke0 (p+2 * n) s'.f s'.ks s'.ke∧z6t a b off d look g (-(d:Int)+ks0) (p+2 * n) s'.f
  | (some q,s')=>look=true∧Hit a b off g q (s'.f q)∧Gd a b d q (s'.f q)∧(q-d)%2=0
 | 0,p,s,S,N,_=>by
  show Sw .. ∧_
  rw[show p+2 * ((0:Nat):Int)=p by exact Int.le_antisymm (zsc 69199729712 rfl) (zsc 61472375344 rfl)];exact⟨S,N⟩
 | n+1,p,s,S,N,hn=>by
  have hp:p≤(d:Int)-ke0:=by have:=hn (Nat.succ_pos n);exact za6 46431308453328748041718341310616608 rfl this
  refine bc fun z9=>?_
  obtain⟨x,y,x1,y1,e1,e2,e3,e4,e5,e6,S'⟩:=zov P hD S hp
  refine z9 ?_
  by_cases c:look=true∧Hit a b off g p (tx a b d p s.f)
  ·rw[zjq c]
   show look=true∧_
   rw[zus]
   exact⟨c.1,c.2,⟨x1,y1,e3,e4,e6⟩,S.par⟩
  ·rw[zfz c]
   have:=zqs P hD n (p+2) (step a b d p s) S' (fun hl k h1 h2 h3=>by
    by_cases q:k=p
    ·subst q;rw[zus];exact fun z=>c ⟨hl,z⟩
    ·rw[show(step a b d p s).f k=s.f k from zrs _ _ q]
     have:=S.par
     exact N hl k h1 (by grind) h3) (fun q=>by have:=hn (Nat.succ_pos n);exact za6 46070768152017644193002433491240467078215373856 rfl this)
   rw[show p+2 * ((n+1:Nat):Int)=p+2+2 * (n:Int) by exact Int.le_antisymm (zbm 143155963158663893357616 rfl) (zbm 605266785031130749903920 rfl)]
   exact this
noncomputable def zsl (lo hi:Int):Nat:=(PySem.Builtin.Range.rangeSize lo (hi+1) 2).toNat
theorem zpm {lo hi:Int} (h:lo≤hi) (hp:(hi-lo)%2=0):lo+2 * (zsl lo hi:Int)=hi+2:=by
 unfold zsl PySem.Builtin.Range.rangeSize
 rw[if_pos (by decide),if_pos (by exact ar02 4544286264197664 rfl h)]
 grind
theorem z0l {d ks ke:Nat} (h1:ks%2=0) (h2:ke%2=0):(((d:Int)-ke)-(-(d:Int)+ks))%2=0:=by
 have k1:=Nat.div_add_mod ks 2
 have k2:=Nat.div_add_mod ke 2
 rw[h1] at k1
 rw[h2] at k2
 rw[show((d:Int)-ke)-(-(d:Int)+ks)=2 * (d-(ke/2:Nat)-(ks/2:Nat)) by clear h1 h2;generalize ke/2=u at *;generalize ks/2=w at *;exact Int.le_antisymm (za9 3424526682751413426519729452711739370829078214774178858 rfl k2 k1) (za9 3430525069438910517826476115616827830553009297241014827 rfl k2 k1)]
 exact Int.mul_emod_right 2 _
noncomputable def zgo (a b:Tx):Bool:=decide (((a.length:Int)-b.length)%2≠0)
noncomputable def zfa (a b:Tx) (off d:Nat) (s t:Tab):Option Int×Tab:=zfr a b off d (zgo a b) t.f (zsl (-(d:Int)+s.ks) ((d:Int)-s.ke)) (-(d:Int)+s.ks) s
noncomputable def zfu (a b:Tx) (off d:Nat) (s t:Tab):Option Int×Tab:=zfr a.reverse b.reverse off d (!zgo a b) s.f (zsl (-(d:Int)+t.ks) ((d:Int)-t.ke)) (-(d:Int)+t.ks) t
noncomputable def zwz (a b:Tx) (off:Nat):Nat→Nat→Tab→Tab→Option (Int×Int)
 | 0,_,_,_=>none
 | n+1,d,s,t=>match zfa a b off d s t with
  | (some p,s')=>some (s'.f p,s'.f p-p)
  | (none,s')=>match zfu a b off d s' t with
   | (some p,t')=>some (s'.f ((a.length:Int)-b.length-p),s'.f ((a.length:Int)-b.length-p)-((a.length:Int)-b.length-p))
   | (none,t')=>zwz a b off n (d+1) s' t'
theorem z6o (a b:Tx) (off n d:Nat) (s t:Tab):zwz a b off (n+1) d s t=match zfa a b off d s t with
  | (some p,s')=>some (s'.f p,s'.f p-p)
  | (none,s')=>match zfu a b off d s' t with
   | (some p,t')=>some (s'.f ((a.length:Int)-b.length-p),s'.f ((a.length:Int)-b.length-p)-((a.length:Int)-b.length-p))
   | (none,t')=>zwz a b off n (d+1) s' t':=rfl
noncomputable def tab0:Tab:=⟨fun k=>if k=1 then 0 else -1,0,0⟩
noncomputable def zel (a b:Tx):Nat:=(a.length+b.length+1)/2
noncomputable def bis (a b:Tx):Option (Int×Int):=zwz a b (zel a b) (zel a b) 0 tab0 tab0
theorem z68 (a b:Tx):Pre a b 0 tab0.f tab0.ks tab0.ke where
 ev:=⟨rfl,rfl⟩
 ti:=fun k _ h1 h2=>by have h1:(0:Int)-0<k:=h1;have h2:k≤0:=h2;exact(zsc 4672991528481 rfl h1 h2).elim
 bi:=fun k _ h1 h2=>by have h1:k < -(0:Int)+0:=h1;have h2:-(0:Int)≤k:=h2;exact(zsc 36242102278029857 rfl h1 h2).elim
 z:=fun _=>⟨rfl,fun k h=>if_neg h⟩
 lo:=fun _=>⟨rfl,rfl⟩
 s:=fun e h=>nomatch h
theorem zmu {a b:Tx}{off d:Nat}{look:Bool}{g:Int→Int}{s:Tab} (P:Pre a b d s.f s.ks s.ke) (hD:2 * d≤zm a b+1) (hd:d≤zm a b):
  match zfr a b off d look g (zsl (-(d:Int)+s.ks) ((d:Int)-s.ke)) (-(d:Int)+s.ks) s with
  | (none,s')=>Pre a b (d+1) s'.f s'.ks s'.ke∧Fu a b d s'.f∧(∀k,s'.f k=-1∨Gd a b d k (s'.f k)∨(k=1∧d=0))∧(look=true→∀x y:Nat,x≤a.length→y≤b.length→EE a b x y≤d→d+RR a b x y≤zm a b→((x:Int)-y-d)%2=0→¬Hit a b off g ((x:Int)-y) (s'.f ((x:Int)-y)))
  | (some q,s')=>look=true∧Hit a b off g q (s'.f q)∧Gd a b d q (s'.f q)∧(q-d)%2=0:=by
 have hn:=P.some hd
 have hv:=P.ev
 have he:=zpm hn (z0l hv.1 hv.2)
 have:=zqs (off:=off) (look:=look) (g:=g) P hD (zsl (-(d:Int)+s.ks) ((d:Int)-s.ke)) (-(d:Int)+s.ks) s (Sw.start P) (fun _ k h1 h2=>absurd h2 (Int.not_lt.mpr h1)) (fun _=>by exact zP 12123897828304728120764583509390342609891530918274082 rfl he)
 generalize zfr a b off d look g (zsl (-(d:Int)+s.ks) ((d:Int)-s.ke)) (-(d:Int)+s.ks) s=r at this ⊢
 obtain⟨_ | q,s'⟩:=r
 ·obtain⟨S,N⟩:=this
  rw[he] at S N
  have P':=S.done P hd (by exact zc 4633926776756696625 rfl) (.inl (Int.le_refl _))
  refine⟨P',S.all P (by exact zc 4633926776756696625 rfl),(P'.s d rfl).1,fun hl x y h1 h2 h3 h4 h5=>?_⟩
  obtain⟨w1,w2⟩:=P.within h1 h2 h3 h4 h5
  exact N hl _ w1 (by exact zP 168254149105742915345289476049008160 rfl w2) h5
 ·exact this
theorem zzn {a b:Tx}{off d e:Nat}{p v:Int}{g:Int→Int} (h:Hit a b off g p v) (G:Gd a b d p v) (hg: ∀k,g k=-1∨Gd a.reverse b.reverse e k (g k)∨(k=1∧e=0)) (hD:d+e≤zm a b) (he:e<zm a b) (hd2:d<zm a b)
  (h1:e=0→(a.length:Int)-b.length-p≠1): ∃x y u w:Nat,v=x∧p=(x:Int)-y∧g ((a.length:Int)-b.length-p)=u∧(a.length:Int)-b.length-p=(u:Int)-w∧Meet a b x y∧Meet a.reverse b.reverse u w:=by
 refine bc fun z9=>?_
 obtain⟨_,_,_,_,h5,h6⟩:=h
 refine z9 ?_
 refine bc fun z9=>?_
 obtain⟨x,y,rfl,e1,e2⟩:=G
 refine z9 ?_
 rcases hg ((a.length:Int)-b.length-p) with q | ⟨u,w,q1,q2,q3⟩ | ⟨q,q2⟩
 ·exact absurd q h5
 ·refine⟨x,y,u,w,rfl,e1,q1,q2,z9b e2 q3 (by exact Int.le_antisymm (z3v 16056004824754485903541871930460755641663625989656871458 rfl e1 q2) (z3v 3784069339343383289739364216858159883874965648381638179 rfl e1 q2)) (by exact za6 12540180180636340933318131381792 rfl h6 q1) hD he hd2,?_⟩
  exact z9b q3 (by rw[List.reverse_reverse,List.reverse_reverse];exact e2) (by rw[List.length_reverse,List.length_reverse];exact Int.le_antisymm (z3v 3784069339343245303578049211851789067949206405111284258 rfl e1 q2) (z3v 9920037813513435201856149182224044702380538537986553379 rfl e1 q2)) (by rw[List.length_reverse];exact za6 22671481462147893103092564031008 rfl h6 q1) (by rw[zp];exact zf 9804662326409303080 rfl hD) (by rw[zp];exact hd2) (by rw[zp];exact he)
 ·exact absurd q (h1 q2)
theorem z46 {a b:Tx}{off d e:Nat}{f g:Int→Int}{x y:Nat} (hx:x≤a.length) (hy:y≤b.length) (h1:EE a b x y≤d) (h2:RR a b x y≤e) (h3:(x:Int)≤f ((x:Int)-y)) (h4:(a.length:Int)-x≤g ((a.length:Int)-b.length-((x:Int)-y)))
  (G:Gd a b d ((x:Int)-y) (f ((x:Int)-y))) (Gg:Gd a.reverse b.reverse e ((a.length:Int)-b.length-((x:Int)-y)) (g ((a.length:Int)-b.length-((x:Int)-y)))) (hD:d+e≤zm a b) (ho:e<off):
  Hit a b off g ((x:Int)-y) (f ((x:Int)-y)):=by
 obtain⟨u,w,e1,e2,e3⟩:=G
 obtain⟨u',w',q1,q2,q3⟩:=Gg
 obtain⟨i1,i2⟩:=zpf e3 q3 (by exact Int.le_antisymm (zpr 95313802694202401988760265400498862929325679575755884255875495458 rfl e2 q2) (zpr 16252457199892062932219958783475681371618422740758911998543066659 rfl e2 q2)) hD
 obtain⟨r1,r2⟩:=zql hx hy
 unfold Hit
 rw[e1]
 refine⟨by exact zc 347510502130216 rfl i1,by exact za9 2883917359775417406173153050148303074851 rfl e2 i2,by exact zlw 583526508759194167972531311828075344976541395780136 rfl h2 ho r2,by exact zlw 26172759370947662119629989045571771599249130193448 rfl h2 ho r1,by(clear hx hy h1 h2 h3 h4 hD ho e1 e2 e3 q2 q3 i1 i2 r1 r2;omega),by exact z8x 190173869818015758350477045116260851232 rfl h3 h4 e1⟩
theorem zss (a b:Tx):(zgo a b=true↔zm a b%2=1):=by
 obtain⟨_,_,t,h⟩:=(zu a b).bound
 unfold zgo
 rw[decide_eq_true_eq]
 generalize zm a b=D at *
 generalize a.length=i at *
 generalize b.length=j at *
 have k:=Nat.div_add_mod D 2
 rcases Nat.mod_two_eq_zero_or_one D with q | q
 ·rw[q] at k ⊢
  have e:(i:Int)-j=2 * ((D/2:Nat)+t-j):=by clear q;generalize D/2=u at *;exact Int.le_antisymm (za9 3617326492425080462939578009789424304004406973482 rfl h k) (za9 9460484582606600863779875666344469608412842300459 rfl h k)
  exact⟨fun z=>absurd (by rw[e];exact Int.mul_emod_right 2 _) z,fun z=>nomatch z⟩
 ·rw[q] at k ⊢
  have e:(i:Int)-j=1+2 * ((D/2:Nat)+t-j):=by clear q;generalize D/2=u at *;exact Int.le_antisymm (za9 3704142328243213604571404909277189665986004696699946 rfl h k) (za9 9687536212589159284491627431187374921803082187674667 rfl h k)
  exact⟨fun _=>rfl,fun _=>by rw[e,Int.add_mul_emod_self_left];decide⟩
theorem Gd.of {a b:Tx}{d:Nat}{k v:Int}{y x:Nat} (h:v=-1∨Gd a b d k v∨(k=1∧d=0)) (hv:(x:Int)≤v) (hk:d=0→k≠1):Gd a b d k v:=by
 rcases h with h | h | ⟨h,h2⟩
 ·grind
 ·exact h
 ·exact absurd h (hk h2)
theorem zt7 {a b:Tx}{off d e:Nat}{f g:Int→Int} (hs:zm a b=d+e) (ho:e<off) (hF:Fu a b d f) (h3: ∀k,f k=-1∨Gd a b d k (f k)∨(k=1∧d=0)) (gF:Fu a.reverse b.reverse e g) (g3: ∀k,g k=-1∨Gd a.reverse b.reverse e k (g k)∨(k=1∧e=0))
  (h4: ∀x y:Nat,x≤a.length→y≤b.length→EE a b x y≤d→d+RR a b x y≤zm a b→((x:Int)-y-d)%2=0→¬Hit a b off g ((x:Int)-y) (f ((x:Int)-y))):False:=by
 obtain⟨x,y,hx,hy,c1,c2,c3,c4⟩:=meets hs hF gF
 obtain⟨t1,p1⟩:=zrd a b x y
 obtain⟨_,_,t2,p2⟩:=(zu a b).bound
 have htri:=tri hx hy
 have hp:((x:Int)-y-d)%2=0:=by clear c3 c4;lia
 have hq:((a.length:Int)-b.length-((x:Int)-y)-e)%2=0:=by clear c3 c4 p1 htri;lia
 have gx:((a.length-x:Nat):Int)=(a.length:Int)-x:=Int.ofNat_sub hx
 exact h4 x y hx hy c1 (by rw[hs];exact Nat.add_le_add_left c2 d) hp (z46 hx hy c1 c2 c3 c4 (Gd.of (y:=0) (h3 _) c3 (fun q z=>by rw[z,q] at hp;exact absurd hp (by decide))) (Gd.of (x:=a.length-x) (y:=0) (g3 _) (gx▸c4) (fun q z=>by rw[z,q] at hq;exact absurd hq (by decide))) (Nat.le_of_eq hs.symm) ho)
theorem zl6 {a b:Tx}{off d:Nat}{s t:Tab} (Pf:Pre a b d s.f s.ks s.ke) (Pb:Pre a.reverse b.reverse d t.f t.ks t.ke) (hD:2 * d≤zm a b+1) (hD2:2≤zm a b) (ho:d<off):
  match zfa a b off d s t with
  | (some p,s')=> ∃x y:Nat,s'.f p=x∧p=(x:Int)-y∧Meet a b x y
  | (none,s')=>Pre a b (d+1) s'.f s'.ks s'.ke∧Fu a b d s'.f∧(∀k,s'.f k=-1∨Gd a b d k (s'.f k)∨(k=1∧d=0))∧2 * d≤zm a b:=by
 have:=zmu (off:=off) (look:=zgo a b) (g:=t.f) Pf hD (by exact zc 649178122658326568 rfl hD)
 unfold zfa
 generalize zfr a b off d (zgo a b) t.f (zsl (-(d:Int)+s.ks) ((d:Int)-s.ke)) (-(d:Int)+s.ks) s=r at this ⊢
 have hpar:=zss a b
 obtain⟨_ | p,s'⟩:=r
 ·obtain⟨h1,h2,h3,h4⟩:=this
  refine⟨h1,h2,h3,?_⟩
  rcases Nat.lt_or_ge (zm a b) (2 * d) with q | q
  ·exfalso
   obtain⟨e,rfl⟩: ∃e,d=e+1:=⟨d-1,by exact Nat.le_antisymm (zc 4653349194605134379 rfl (Nat.sub_add_cancel (zc 637811310199337 rfl q))) (zc 5224220029859402794 rfl (Nat.sub_add_cancel (zc 637811310199337 rfl q)))⟩
   have ho':zgo a b=true:=hpar.mpr (by(clear hD2 hpar ho;lia))
   obtain⟨g1,g2,_⟩:=Pb.s e rfl
   exact zt7 (e:=e) (by exact Nat.le_antisymm (zc 684785942851549031301673 rfl q) (zc 696983561272599764980607016 rfl hD)) (Nat.lt_of_succ_lt ho) h2 h3 g2 g1 (h4 ho')
  ·exact q
 ·obtain⟨ho',hh,hg,hq⟩:=this
  have hdel:((a.length:Int)-b.length)%2≠0:=of_decide_eq_true ho'
  have hodd:=hpar.mp ho'
  cases d with
  | zero=>
   exfalso
   obtain⟨i1,i2,i3,i4,i5,i6⟩:=hh
   obtain⟨x,y,e1,e2,e3⟩:=hg
   obtain⟨z1,z2⟩:=Pb.z rfl
   by_cases q:(a.length:Int)-b.length-p=1
   ·rw[q,z1] at i6
    have:=zgy a b x y
    exact ztn 187228496183121624437008332791223840 rfl i2 i6 q
   ·exact i5 (z2 _ q)
  | succ e=>
   obtain⟨g1,g2,_⟩:=Pb.s e rfl
   obtain⟨x,y,u,w,k1,k2,_,_,k3,_⟩:=zzn hh hg g1 (by exact zc 696983561272599764980607016 rfl hD) (by exact zc 664723494705474185256 rfl hD) (by exact zc 673798064586107681244562137128 rfl hD2 hD) (fun q=>by grind)
   exact⟨x,y,k1,k2,k3⟩
theorem zmh {a b:Tx}{off d:Nat}{s t:Tab} (h2:Fu a b d s.f) (h3: ∀k,s.f k=-1∨Gd a b d k (s.f k)∨(k=1∧d=0)) (Pb:Pre a.reverse b.reverse d t.f t.ks t.ke) (hD:2 * d≤zm a b) (hD2:2≤zm a b) (ho:d<off):
  match zfu a b off d s t with
  | (some p,t')=> ∃x y:Nat,s.f ((a.length:Int)-b.length-p)=x∧(a.length:Int)-b.length-p=(x:Int)-y∧Meet a b x y
  | (none,t')=>Pre a.reverse b.reverse (d+1) t'.f t'.ks t'.ke∧2 * (d+1)≤zm a b+1:=by
 have:=zmu (off:=off) (look:=!zgo a b) (g:=s.f) Pb (by rw[zp];exact zc 74453590463754610728 rfl hD) (by rw[zp];exact zc 633963018266664 rfl hD)
 unfold zfu
 generalize zfr a.reverse b.reverse off d (!zgo a b) s.f (zsl (-(d:Int)+t.ks) ((d:Int)-t.ke)) (-(d:Int)+t.ks) t=r at this ⊢
 have hpar:=zss a b
 obtain⟨_ | p,t'⟩:=r
 ·obtain⟨k1,k2,k3,k4⟩:=this
  refine⟨k1,?_⟩
  rcases Nat.lt_or_ge (zm a b) (2 * d+1) with q | q
  ·exfalso
   have ho':zgo a b=false:=by
    cases z:zgo a b with
    | false=>rfl
    | true=>have:=hpar.mp z;(clear hD2 ho hpar z;lia)
   exact zt7 (e:=d) (by rw[zp];exact Nat.le_antisymm (zc 669415673204289176105 rfl q) (zc 649086854058027048 rfl hD)) ho k2 k3 (by rw[List.reverse_reverse,List.reverse_reverse];exact h2) (by rw[List.reverse_reverse,List.reverse_reverse];exact h3) (k4 (by rw[ho'];rfl))
  ·(clear hD hD2 ho hpar;exact Nat.succ_le_succ ‹_›)
 ·obtain⟨ho',hh,hg,hq⟩:=this
  have ho':zgo a b=false:=by rwa [Bool.not_eq_true'] at ho'
  have hdel:((a.length:Int)-b.length)%2=0:=Decidable.of_not_not (of_decide_eq_false ho')
  obtain⟨x,y,e1,e2,e3⟩:=id hg
  have h3': ∀k,s.f k=-1∨Gd a.reverse.reverse b.reverse.reverse d k (s.f k)∨(k=1∧d=0):=by rw[List.reverse_reverse,List.reverse_reverse];exact h3
  obtain⟨x',y',u,w,_,_,k1,k2,_,k3⟩:=zzn hh hg h3' (by rw[zp];exact zc 649086854058027048 rfl hD) (by rw[zp];exact zc 5318076262138266069032 rfl hD hD2) (by rw[zp];exact zc 5318076262138266069032 rfl hD hD2) (fun q=>by
   subst q
   have:=zgy a.reverse b.reverse x y
   rw[List.length_reverse,List.length_reverse];(clear e2;lia))
  rw[List.length_reverse,List.length_reverse] at k1 k2
  rw[List.reverse_reverse,List.reverse_reverse] at k3
  exact⟨u,w,k1,k2,k3⟩
theorem zwt {a b:Tx}{off:Nat} (hD2:2≤zm a b): ∀(n d:Nat) (s t:Tab),d+n=off→Pre a b d s.f s.ks s.ke→Pre a.reverse b.reverse d t.f t.ks t.ke→2 * d≤zm a b+1→
  match zwz a b off n d s t with
  | some (u,v)=> ∃x y:Nat,u=x∧v=y∧Meet a b x y
  | none=>2 * off≤zm a b+1
 | 0,d,s,t,hn,Pf,Pb,hD=>by show 2 * off≤_;exact zf 659971309957412435009282849243723 rfl hn hD
 | n+1,d,s,t,hn,Pf,Pb,hD=>by
  have hF:=zl6 (off:=off) Pf Pb hD hD2 (by exact zf 9804838938652709930 rfl hn)
  rw[z6o]
  generalize zfa a b off d s t=r at hF ⊢
  obtain⟨_ | p,s'⟩:=r
  ·obtain⟨h1,h2,h3,h4⟩:=hF
   have hB:=zmh (off:=off) h2 h3 Pb h4 hD2 (by exact zf 9804838938652709930 rfl hn)
   dsimp only
   generalize zfu a b off d s' t=r at hB ⊢
   obtain⟨_ | p,t'⟩:=r
   ·exact zwt hD2 n (d+1) s' t' (by exact Nat.le_antisymm (zf 10318666282764277363250218 rfl hn) (zf 10313990821270913238565419 rfl hn)) h1 hB.1 hB.2
   ·obtain⟨x,y,e1,e2,e3⟩:=hB
    exact⟨x,y,e1,by exact Int.le_antisymm (z82 881681067442870894175604782152533088693846562 rfl e1 e2) (z82 815290640515788062471128449944128310515080739 rfl e1 e2),e3⟩
  ·obtain⟨x,y,e1,e2,e3⟩:=hF
   exact⟨x,y,e1,by exact Int.le_antisymm (ztn 195768821082743581512848835106 rfl e1 e2) (ztn 178477630642889768439965556259 rfl e1 e2),e3⟩
theorem zza {x y x' y':Char}{a b:Tx}{u v:Tx} (h1:x≠y) (ha:x::a=u++[x']) (hb:y::b=v++[y']) (h2:x'≠y'):2≤zm (x::a) (y::b):=by
 have k:=zu (x::a) (y::b)
 generalize zm (x::a) (y::b)=d at k ⊢
 rcases Nat.lt_or_ge d 2 with q | q
 ·exfalso
  have key: ∀{p r:Tx},Ed 0 p r→∀{u v:Tx} {c e:Char},p=u++[c]→r=v++[e]→c=e:=fun h u v c e e1 e2=>by
   have:=h.zero rfl
   rw[e1,e2] at this
   exact(List.append_inj' this rfl).2 |> List.cons.inj |>.1
  cases k with
  | eq c k=>exact h1 rfl
  | del c k=>
   rename_i d
   have:d=0:=Nat.le_antisymm (zw 4880160789545 rfl q) (zw 65592 rfl)
   subst this
   cases a with
   | nil=>cases k.zero rfl
   | cons z a=>
    cases u with
    | nil=>cases ha
    | cons _ u=>exact h2 (key k (List.cons.inj ha).2 hb)
  | ins c k=>
   rename_i d
   have:d=0:=Nat.le_antisymm (zw 4880160789545 rfl q) (zw 65592 rfl)
   subst this
   cases b with
   | nil=>cases k.zero rfl
   | cons z b=>
    cases v with
    | nil=>cases hb
    | cons _ v=>exact h2 (key k ha (List.cons.inj hb).2)
 ·exact q
theorem z43 {a b:Tx} (h:2≤zm a b):match bis a b with
  | some (u,v)=> ∃x y:Nat,u=x∧v=y∧Meet a b x y
  | none=>zm a b=a.length+b.length:=by
 have:=zwt (off:=zel a b) h (zel a b) 0 tab0 tab0 (Nat.zero_add _) (z68 a b) (z68 _ _) (Nat.zero_le _)
 unfold bis
 generalize zwz a b (zel a b) (zel a b) 0 tab0 tab0=r at this ⊢
 cases r with
 | none=>
  obtain⟨_,_,t,ht⟩:=(zu a b).bound
  unfold zel at this
  show zm a b=_
  have:2 * ((a.length+b.length+1)/2)≤zm a b+1:=this
  grind
 | some q=>exact this
structure HM where
 a1:Tx
 a2:Tx
 b1:Tx
 b2:Tx
 c:Tx
noncomputable def HNo (H:Tx→Tx→Option HM→Prop) (a b:Tx):Prop:=H a b none∧(if b.length<a.length then b.length else a.length)≠1
structure HM.ok (a b:Tx) (h:HM):Prop where
 ea:a=h.a1++h.c++h.a2
 eb:b=h.b1++h.c++h.b2
 c0:h.c≠[]
noncomputable def yO (x:Tx):Row:=if x=[] then[] else[(0,x)]
structure Apart (a b:Tx):Prop where
 hd: ∀x y as bs,a=x::as→b=y::bs→x≠y
 tl: ∀x y as bs,a=as++[x]→b=bs++[y]→x≠y
mutual
inductive MainR (H:Tx→Tx→Option HM→Prop):Tx→Tx→Row→Prop
 | same (a:Tx):MainR H a a (yO a)
 | diff {p s a b:Tx} {L:Row}:p++a++s≠p++b++s→lcp (p++a++s) (p++b++s)=p.length→Apart a b→CompR H a b L→phi (yO p++L++yO s)<100→MainR H (p++a++s) (p++b++s) (zB 100 (yO p++L++yO s))
inductive CompR (H:Tx→Tx→Option HM→Prop):Tx→Tx→Row→Prop
 | ins {b:Tx}:b≠[]→CompR H [] b [(1,b)]
 | del {a:Tx}:a≠[]→CompR H a [] [(-1,a)]
 | inA {u v b:Tx}:b≠[]→b.length<(u++b++v).length→(∀j,j<u.length→¬Occ (u++b++v) b j)→CompR H (u++b++v) b [(-1,u),(0,b),(-1,v)]
 | inB {u v a:Tx}:a≠[]→a.length≤(u++a++v).length→(∀j,j<u.length→¬Occ (u++a++v) a j)→CompR H a (u++a++v) [(1,u),(0,a),(1,v)]
 | one {a b:Tx}:a≠[]→b≠[]→(if b.length<a.length then b.length else a.length)=1→(∀j,¬Occ (if b.length<a.length then a else b) (if b.length<a.length then b else a) j)→CompR H a b [(-1,a),(1,b)]
 | half {a b:Tx} {h:HM} {L1 L2:Row}:(∀j,¬Occ (if b.length<a.length then a else b) (if b.length<a.length then b else a) j)→H a b (some h)→HM.ok a b h→MainR H h.a1 h.b1 L1→MainR H h.a2 h.b2 L2→CompR H a b (L1++(0,h.c)::L2)
 | none {a b:Tx}:a≠[]→b≠[]→(∀j,¬Occ (if b.length<a.length then a else b) (if b.length<a.length then b else a) j)→HNo H a b→bis a b=none→zm a b=a.length+b.length→CompR H a b [(-1,a),(1,b)]
 | bis {a b:Tx} {x y:Nat} {L1 L2:Row}:(∀j,¬Occ (if b.length<a.length then a else b) (if b.length<a.length then b else a) j)→HNo H a b→bis a b=some ((x:Int),(y:Int))→Meet a b x y→MainR H (a.take x) (b.take y) L1→MainR H (a.drop x) (b.drop y) L2→CompR H a b (L1++L2)
end
noncomputable abbrev zhy (a b:Tx):Prop:= ∀j,¬Occ (if b.length<a.length then a else b) (if b.length<a.length then b else a) j
theorem zln {H:Tx→Tx→Option HM→Prop}{M1 M2:Tx→Tx→Row→Prop} (c1: ∀a,M1 a a (yO a))
  (c2: ∀{p s a b L},p++a++s≠p++b++s→lcp (p++a++s) (p++b++s)=p.length→Apart a b→CompR H a b L→phi (yO p++L++yO s)<100→M2 a b L→M1 (p++a++s) (p++b++s) (zB 100 (yO p++L++yO s)))
  (c3: ∀{b},b≠[]→M2 [] b [(1,b)]) (c4: ∀{a},a≠[]→M2 a [] [(-1,a)])
  (c5: ∀{u v b},b≠[]→b.length<(u++b++v).length→(∀j,j<u.length→¬Occ (u++b++v) b j)→M2 (u++b++v) b [(-1,u),(0,b),(-1,v)])
  (c6: ∀{u v a},a≠[]→a.length≤(u++a++v).length→(∀j,j<u.length→¬Occ (u++a++v) a j)→M2 a (u++a++v) [(1,u),(0,a),(1,v)])
  (c7: ∀{a b},a≠[]→b≠[]→(if b.length<a.length then b.length else a.length)=1→zhy a b→M2 a b [(-1,a),(1,b)])
  (c8: ∀{a b} {h:HM} {L1 L2},zhy a b→H a b (some h)→HM.ok a b h→MainR H h.a1 h.b1 L1→MainR H h.a2 h.b2 L2→M1 h.a1 h.b1 L1→M1 h.a2 h.b2 L2→M2 a b (L1++(0,h.c)::L2))
  (c9: ∀{a b},a≠[]→b≠[]→zhy a b→HNo H a b→bis a b=none→zm a b=a.length+b.length→M2 a b [(-1,a),(1,b)])
  (c10: ∀{a b} {x y:Nat} {L1 L2},zhy a b→HNo H a b→bis a b=some ((x:Int),(y:Int))→Meet a b x y→MainR H (a.take x) (b.take y) L1→MainR H (a.drop x) (b.drop y) L2→M1 (a.take x) (b.take y) L1→M1 (a.drop x) (b.drop y) L2→M2 a b (L1++L2)):
  (∀{a b L},MainR H a b L→M1 a b L)∧∀{a b L},CompR H a b L→M2 a b L:=
 ⟨fun h=>MainR.rec (motive_1:=fun a b L _=>M1 a b L) (motive_2:=fun a b L _=>M2 a b L) c1 c2 c3 c4 c5 c6 c7 c8 c9 c10 h,
   fun h=>CompR.rec (motive_1:=fun a b L _=>M1 a b L) (motive_2:=fun a b L _=>M2 a b L) c1 c2 c3 c4 c5 c6 c7 c8 c9 c10 h⟩
theorem zzt: ∀{L:Row},zk L→Ed (ze L) (z4 (-1) L) (z4 1 L)
 | [],_=> .nil
 | p::L,h=>by
  have ih:=zzt h.tail
  obtain⟨k,x⟩:=p
  rcases h.head with e | e | e
  ·cases e
   exact show Ed (x.length+ze L) (x++z4 (-1) L) ([]++z4 1 L) from(zwf x).append ih
  ·cases e
   have:=(zu x x).append ih
   rw[zeb] at this
   exact show Ed (0+ze L) (x++z4 (-1) L) (x++z4 1 L) from this
  ·cases e
   exact show Ed (x.length+ze L) ([]++z4 (-1) L) (x++z4 1 L) from(zok x).append ih
theorem zxm {L:Row} (h:zk L):zm (z4 (-1) L) (z4 1 L)≤ze L:=zaa _ _ (zzt h)
theorem zen: ∀{L:Row},NE L→zk L→phi L≤2 * ((z4 (-1) L).length+(z4 1 L).length)
 | [],_,_=>Nat.le_refl _
 | p::L,h,k=>by
  have ih:=zen h.tail k.tail
  have h0:=List.length_pos_iff.mpr h.head
  rw[zh]
  unfold z4
  rw[List.length_append,List.length_append]
  rcases k.head with e | e | e
  ·rw[if_pos (.inr e),if_neg (by lia)];simp only[List.length_nil];grind
  ·rw[if_pos (.inl e),if_pos (.inl e)];grind
  ·rw[if_neg (by lia),if_pos (.inr e)];simp only[List.length_nil];grind
theorem zlp: ∀(p a b:Tx),zm (p++a) (p++b)=zm a b
 | [],_,_=>rfl
 | c::p,a,b=>by
  show zm (c::(p++a)) (c::(p++b))=_
  rw[zlq,if_pos rfl];exact zlp p a b
theorem zyn (s a b:Tx):zm (a++s) (b++s)=zm a b:=by rw[←zp,List.reverse_append,List.reverse_append,zlp,zp]
theorem zlf (p s a b:Tx):zm (p++a++s) (p++b++s)=zm a b:=by rw[zyn,zlp]
theorem zgc (k:Int) (x:Tx):z4 k (yO x)=x:=by
 unfold yO;split
 ·rename_i h;rw[h];rfl
 ·rw[zch,if_pos (.inl rfl)]
theorem zaw (x:Tx):ze (yO x)=0:=by unfold yO;split<;>rfl
theorem zL (x:Tx):zk (yO x):=by unfold yO;split;exact .nil;exact .cons (.inr (.inl rfl)) .nil
theorem zfm (x:Tx):NE (yO x):=by unfold yO;split;exact .nil;exact .cons (by assumption) .nil
noncomputable def NoH (H:Tx→Tx→Option HM→Prop):Prop:= ∀a b h,¬H a b (some h)
structure MG (H:Tx→Tx→Option HM→Prop) (a b:Tx) (L:Row):Prop where
 k:zk L
 n:NE L
 m:z4 (-1) L=a
 p:z4 1 L=b
 o:NoH H→ze L=zm a b
structure CG (H:Tx→Tx→Option HM→Prop) (a b:Tx) (L:Row):Prop where
 k:zk L
 n:NE L
 m:z4 (-1) L=a
 p:z4 1 L=b
 o:NoH H→ze L≤zm a b
theorem Ed.one {d:Nat}{x y:Tx} (h:Ed d x y): ∀{c:Char},(y=[c]→c∉x→d=x.length+1)∧(y=[]→d=x.length):=by
 induction h with
 | nil=>exact fun {c}=>⟨(fun q=>by cases q),fun _=>rfl⟩
 | eq e _ ih=>exact fun {c}=>⟨(fun q hn=>by cases q;exact absurd List.mem_cons_self hn),fun q=>by cases q⟩
 | del e _ ih=>exact fun {c}=>⟨fun q hn=>by rw[(ih (c:=c)).1 q (fun z=>hn (List.mem_cons_of_mem _ z))];rfl,fun q=>by rw[(ih (c:=c)).2 q];rfl⟩
 | ins e h ih=>exact fun {c}=>⟨fun q hn=>by cases q;rw[(ih (c:=e)).2 rfl],fun q=>by cases q⟩
theorem zq8 {a:Tx}{c:Char} (h:c∉a):zm a [c]=a.length+1:=((zu a [c]).one (c:=c)).1 rfl h
theorem ztm {a:Tx}{c:Char} (h: ∀j,¬Occ a [c] j):c∉a:=fun q=>by
 obtain⟨i,hi⟩:=List.getElem?_of_mem q
 obtain⟨hl,he⟩:=List.getElem?_eq_some_iff.mp hi
 refine h i ⟨hl,?_⟩
 rw[List.drop_eq_getElem_cons hl,he];rfl
theorem zvx {x:Tx} (h:x.length=1): ∃c,x=[c]:=by
 cases x with
 | nil=>cases h
 | cons c x=>cases x with
  | nil=>exact⟨c,rfl⟩
  | cons d x=>exact absurd (Nat.succ.inj h) (Nat.succ_ne_zero _)
theorem zkn {a b:Tx} (h1:(if b.length<a.length then b.length else a.length)=1) (h2: ∀j,¬Occ (if b.length<a.length then a else b) (if b.length<a.length then b else a) j):a.length+b.length≤zm a b:=by
 by_cases q:b.length<a.length
 ·rw[if_pos q] at h1
  rw[if_pos q,if_pos q] at h2
  obtain⟨c,rfl⟩:=zvx h1
  rw[zq8 (ztm h2)];exact Nat.le_refl _
 ·rw[if_neg q] at h1
  rw[if_neg q,if_neg q] at h2
  obtain⟨c,rfl⟩:=zvx h1
  rw[zgi,zq8 (ztm h2)]
  exact Nat.le_of_eq (Nat.add_comm ..)
theorem zzp {H:Tx→Tx→Option HM→Prop}{a b:Tx} (ha:a≠[]) (hb:b≠[]) (h:NoH H→a.length+b.length≤zm a b):CG H a b [(-1,a),(1,b)] where
 k:= .cons (.inl rfl) (.cons (.inr (.inr rfl)) .nil)
 n:= .cons ha (.cons hb .nil)
 m:=by show a++([]++[])=a;rw[List.append_nil,List.append_nil]
 p:=by show[]++(b++[])=b;rw[List.append_nil,List.nil_append]
 o:=fun n=>h n
theorem ztz {u b v:Tx} (hb:b≠[]) (A:Apart (u++b++v) b):u≠[]∧v≠[]:=by
 constructor
 ·rintro rfl
  obtain⟨c,bs,rfl⟩:=List.exists_cons_of_ne_nil hb
  exact A.hd c c (bs++v) bs rfl rfl rfl
 ·rintro rfl
  have e:=List.dropLast_concat_getLast hb
  refine A.tl (b.getLast hb) (b.getLast hb) (u++b.dropLast) b.dropLast ?_ e.symm rfl
  rw[List.append_nil,List.append_assoc,e]
theorem Apart.swap {a b:Tx} (A:Apart a b):Apart b a:=⟨fun x y as bs h1 h2=>(A.hd y x bs as h2 h1).symm,fun x y as bs h1 h2=>(A.tl y x bs as h2 h1).symm⟩
theorem znm {H:Tx→Tx→Option HM→Prop}:(∀{a b L},MainR H a b L→MG H a b L)∧∀{a b L},CompR H a b L→Apart a b→CG H a b L:=by
 refine zln (M1:=MG H) (M2:=fun a b L=>Apart a b→CG H a b L) ?_ ?_ ?_ ?_ ?_ ?_ ?_ ?_ ?_ ?_
 ·intro a
  exact⟨zL a,zfm a,zgc _ a,zgc _ a,fun _=>by rw[zaw,zeb]⟩
 ·intro p s a b L hne _ A hc hp ih
  have C:=ih A
  have hN:NE (yO p++L++yO s):=((zfm p).append C.n).append (zfm s)
  have hK:zk (yO p++L++yO s):=((zL p).append C.k).append (zL s)
  obtain⟨k1,k5⟩:=zg1 100 _ hK hp
  obtain⟨n1,n2,_⟩:=zh9 100 _ hN hK hp
  have hm: ∀k:Int,k=-1∨k=1→z4 k (zB 100 (yO p++L++yO s))=p++z4 k L++s:=fun k hk=>by
   simp only[k5 k hk,sda,sda,zgc,zgc]
  have e1:=hm (-1) (.inl rfl)
  have e2:=hm 1 (.inr rfl)
  rw[C.m] at e1
  rw[C.p] at e2
  refine⟨k1,n1,e1,e2,fun no=>?_⟩
  refine Nat.le_antisymm ?_ ?_
  ·have t1:=zh7 hK
   rw[zv,zv,zaw,zaw] at t1
   have:=C.o no
   rw[zlf];lia
  ·have:=zxm k1
   rw[e1,e2] at this;exact this
 ·intro b hb A
  exact⟨.cons (.inr (.inr rfl)) .nil,.cons hb .nil,rfl,List.append_nil b,fun _=>Nat.le_refl _⟩
 ·intro a ha A
  exact⟨.cons (.inl rfl) .nil,.cons ha .nil,List.append_nil a,rfl,fun _=>by rw[zbf];exact Nat.le_refl _⟩
 ·intro u v b hb hl hf A
  obtain⟨hu,hv⟩:=ztz hb A
  refine⟨.cons (.inl rfl) (.cons (.inr (.inl rfl)) (.cons (.inl rfl) .nil)),.cons hu (.cons hb (.cons hv .nil)),by show u++(b++(v++[]))=_;simp,by show[]++(b++([]++[]))=b;simp,fun _=>?_⟩
  have:=(zu (u++b++v) b).bound.1
  show u.length+(0+(v.length+0))≤_
  simp only[List.length_append] at this
  lia
 ·intro u v b hb hl hf A
  obtain⟨hu,hv⟩:=ztz hb A.swap
  refine⟨.cons (.inr (.inr rfl)) (.cons (.inr (.inl rfl)) (.cons (.inr (.inr rfl)) .nil)),.cons hu (.cons hb (.cons hv .nil)),by show[]++(b++([]++[]))=b;simp,by show u++(b++(v++[]))=_;simp,fun _=>?_⟩
  have:=(zu b (u++b++v)).bound.2.1
  show u.length+(0+(v.length+0))≤_
  simp only[List.length_append] at this
  lia
 ·intro a b ha hb h1 h2 A
  exact zzp ha hb fun _=>zkn h1 h2
 ·intro a b h L1 L2 h2 hh ho _ _ i1 i2 A
  refine⟨i1.k.append (.cons (.inr (.inl rfl)) i2.k),i1.n.append (.cons ho.c0 i2.n),?_,?_,fun no=>absurd hh (no a b h)⟩
  ·rw[sda,i1.m];show h.a1++(h.c++z4 (-1) L2)=a;rw[i2.m,ho.ea,List.append_assoc]
  ·rw[sda,i1.p];show h.b1++(h.c++z4 1 L2)=b;rw[i2.p,ho.eb,List.append_assoc]
 ·intro a b ha hb h2 hh hn hd A
  exact zzp ha hb fun _=>Nat.le_of_eq hd.symm
 ·intro a b x y L1 L2 h2 hh hb hm _ _ i1 i2 A
  refine⟨i1.k.append i2.k,i1.n.append i2.n,by simp only[sda,i1.m,i2.m,List.take_append_drop],by simp only[sda,i1.p,i2.p,List.take_append_drop],fun no=>?_⟩
  rw[zv,i1.o no,i2.o no]
  have:=hm.cost
  rw[ze4 hm.hx hm.hy] at this
  exact Nat.le_of_eq this
theorem zaj {H:Tx→Tx→Option HM→Prop}{a b:Tx}{L:Row} (h:MainR H a b L):MG H a b L:=znm.1 h
theorem zfx {H:Tx→Tx→Option HM→Prop}{a b:Tx}{L:Row} (h:CompR H a b L) (A:Apart a b):CG H a b L:=znm.2 h A
theorem z3c {H:Tx→Tx→Option HM→Prop}{a b:Tx}{L:Row} (m:MainR H a b L):adj gp L∧zob L:=by
 cases m with
 | same a=>unfold yO;split<;>exact⟨trivial,trivial⟩
 | diff hne h1 A hc hp=>
  obtain⟨_,k2,k3,_⟩:=zme 100 _ (((zL _).append (zfx hc A).k).append (zL _)) hp
  exact⟨k2,k3⟩
end Mine.Internal
namespace Mine.Internal
open PySem PyProof.Rows PySem.W
noncomputable def zcr:List Str:=[]
noncomputable def zcv:List Str:=[]
theorem zlx {n k:Nat}:(max 0 (min (k:Int) (n:Int))).toNat=min k n:=by
 by_cases h:k≤n
 ·rw[Int.min_eq_left (Int.ofNat_le.mpr h),Int.max_eq_right (Int.natCast_nonneg _),Int.toNat_natCast,Nat.min_eq_left h]
 ·have h:=Nat.le_of_not_le h
  rw[Int.min_eq_right (Int.ofNat_le.mpr h),Int.max_eq_right (Int.natCast_nonneg _),Int.toNat_natCast,Nat.min_eq_right h]
theorem zfs {n:Nat}{i:Nat}:z0c n (i:Int)=min i n:=by
 unfold z0c clipAt
 rw[if_neg (Int.not_lt.mpr (Int.natCast_nonneg i))]
 exact zlx
theorem zlt {n:Nat}{i:Nat} (h:0<i) (h2:i≤n):z0c n (-(i:Int))=n-i:=by
 unfold z0c clipAt
 rw[if_pos (Int.neg_neg_of_pos (Int.ofNat_lt.mpr h)),show -(i:Int)+n=((n-i:Nat):Int) by rw[Int.ofNat_sub h2,Int.add_comm];rfl,zlx,Nat.min_eq_left (Nat.sub_le _ _)]
theorem ziq {α:Type} (xs:List α) {a b:Nat} (h1:a≤b) (h2:b≤xs.length):zcq xs (some (a:Int)) (some (b:Int))=(xs.drop a).take (b-a):=by
 unfold zcq zfp zh3
 simp only[Option.elim,zfs]
 rw[Nat.min_eq_left h2,Nat.min_eq_left (ntr h1 h2)]
theorem zco {α:Type} (xs:List α) {b:Nat} (h2:b≤xs.length):zcq xs none (some (b:Int))=xs.take b:=by
 unfold zcq zfp zh3
 simp only[Option.elim,zfs]
 rw[Nat.min_eq_left h2];simp
theorem zJ {α:Type} (xs:List α) {a:Nat} (h2:a≤xs.length):zcq xs (some (a:Int)) none=xs.drop a:=by
 unfold zcq zfp zh3
 simp only[Option.elim,zfs]
 rw[Nat.min_eq_left h2];exact List.take_of_length_le (by simp)
theorem zmr {a b:Tx}{k l:Nat} (h:k≤l) (hk:a.take k=b.take k):((a.drop k).take (l-k)=(b.drop k).take (l-k))↔a.take l=b.take l:=by
 have e: ∀x:Tx,x.take l=x.take k++(x.drop k).take (l-k):=fun x=>by
  rw[←List.take_add];congr 1;exact Nat.le_antisymm (zf 5265838744531501611 rfl (Nat.sub_add_cancel (zc 4952567644712 rfl h))) (zf 9804662326409303082 rfl (Nat.sub_add_cancel (zc 4952567644712 rfl h)))
 rw[e a,e b,hk]
 exact⟨fun q=>by rw[q],fun q=>List.append_cancel_left q⟩
noncomputable def za4:List Str:=["self","text1","text2"]
noncomputable def zaq:List Str:=["pointermin","pointermax","pointermid","pointerstart"]
noncomputable def zcz:List (Str×NameKind):=[("min",.globalImplicit),("len",.globalImplicit)]
noncomputable def zO:List Sm:=[
  .ife (.bor [.not (.var 1),.not (.var 2),.cmp (.idx (.var 1) (.lit (.int 0))) [.NotEq] [.idx (.var 2) (.lit (.int 0))]]) [
   .ret (.lit (.int 0))] [],
  .assign [.var 3] (.lit (.int 0)),
  .assign [.var 4] (.bi .min [.bi .len [.var 1],.bi .len [.var 2]]),
  .assign [.var 5] (.var 4),
  .assign [.var 6] (.lit (.int 0)),
  .whl (.cmp (.var 3) [.Lt] [.var 5]) [
   .ife (.cmp (.slc (.var 1) (.var 6) (.var 5) (.lit .none)) [.Eq] [.slc (.var 2) (.var 6) (.var 5) (.lit .none)]) [
    .assign [.var 3] (.var 5),
    .assign [.var 6] (.var 3)] [
    .assign [.var 4] (.var 5)],
   .assign [.var 5] (.bin .Add (.bin .FloorDiv (.bin .Sub (.var 4) (.var 3)) (.lit (.int 2))) (.var 3))],
  .ret (.var 5)]
structure Half (N L pmin pmax pmid:Nat):Prop where
 a:pmin≤L
 b:pmin≤pmid
 c:pmid≤pmax
 d:pmax≤N
 e:L≤pmax
 f:pmid=pmax∨(L<pmax∧pmid=(pmax-pmin)/2+pmin)
theorem yA {α:Type} (xs:List α) (i:Nat) (h:i<xs.length):zH xs (i:Int)=xs[i]? :=by
 unfold zH
 have:seqIndex? (i:Int) xs.length=some i:=by
  unfold seqIndex?
  have e:(if (i:Int)<0 then(i:Int)+xs.length else(i:Int))=i:=if_neg (by exact Int.not_lt.mpr (zw 983088 rfl))
  simp only[e]
  rw[if_pos (by simp;omega)];simp
 rw[this];rfl
theorem zc1 {α:Type} (xs:List α) (h:0<xs.length):zH xs (-1)=xs[xs.length-1]? :=by
 unfold zH
 have:seqIndex? (-1) xs.length=some (xs.length-1):=by
  unfold seqIndex?
  have e:(if (-1:Int)<0 then(-1:Int)+xs.length else(-1:Int))=((xs.length-1:Nat):Int):=by rw[if_pos (by decide)];exact(Int.ofNat_sub ‹_›).symm
  simp only[e]
  rw[if_pos (by simp;exact zc 5071437861753898 rfl (Nat.sub_add_cancel (zw 584585379881 rfl h)))];simp
 rw[this];rfl
theorem zy1 {N L pmin pmax pmid:Nat} (h:Half N L pmin pmax pmid) (e:pmid≤pmin):pmid=L:=by
 obtain⟨a,b,c,d,e',f⟩:=h
 have hp:pmid=pmin:=Nat.le_antisymm e b
 refine Nat.le_antisymm (hp▸a) ?_
 rcases f with f | ⟨f1,f2⟩
 ·rw[f];exact e'
 ·rw[hp] at f2 ⊢
  have f3:(pmax-pmin)/2=0:=Nat.add_right_cancel (f2.symm.trans (Nat.zero_add _).symm)
  have f4:pmax-pmin<2:=Nat.lt_of_not_le fun z=>absurd f3 (Nat.ne_of_gt (Nat.div_pos z (by decide)))
  exact Nat.le_of_lt_succ (Nat.lt_of_lt_of_le f1 (Nat.sub_le_iff_le_add'.mp (Nat.le_of_lt_succ f4)))
theorem zvo {x y:Nat} (h:x≤y):(y-x)/2+x≤y:=ntr (Nat.add_le_add_right (Nat.div_le_self _ _) _) (Nat.le_of_eq (Nat.sub_add_cancel h))
theorem z0q {N L pmin pmax pmid:Nat} (h:Half N L pmin pmax pmid) (e:pmin<pmid) (g:pmid≤L):Half N L pmid pmax ((pmax-pmid)/2+pmid)∧2 * (pmax-pmid)+(if (pmax-pmid)/2+pmid=pmax then 1 else 0)<2 * (pmax-pmin)+(if pmid=pmax then 1 else 0):=by
 obtain⟨a,b,c,d,e',f⟩:=h
 refine⟨⟨g,Nat.le_add_left ..,zvo c,d,e',?_⟩,?_⟩
 ·rcases f with q | q
  ·exact .inl (by rw[q,Nat.sub_self];exact Nat.zero_add _)
  ·exact .inr ⟨q.1,rfl⟩
 ·have i1:(if (pmax-pmid)/2+pmid=pmax then 1 else 0)≤1:=by split<;>decide
  refine Nat.lt_of_lt_of_le (Nat.lt_succ_of_le (Nat.add_le_add_left i1 _)) (ntr ?_ (Nat.le_add_right _ _))
  clear f i1 d e' a
  exact za9 23106876828768228517046174317749942352413257 rfl e (Nat.sub_add_cancel (zc 4952567644712 rfl c)) (Nat.sub_add_cancel (zf 78438641144798183977 rfl e c))
theorem zte {N L pmin pmax pmid:Nat} (h:Half N L pmin pmax pmid) (e:pmin<pmid) (g: ¬pmid≤L):Half N L pmin pmid ((pmid-pmin)/2+pmin)∧2 * (pmid-pmin)+(if (pmid-pmin)/2+pmin=pmid then 1 else 0)<2 * (pmax-pmin)+(if pmid=pmax then 1 else 0):=by
 obtain⟨a,b,c,d,e',f⟩:=h
 refine⟨⟨a,Nat.le_add_left ..,zvo b,ntr c d,Nat.le_of_lt (Nat.lt_of_not_le g),.inr ⟨Nat.lt_of_not_le g,rfl⟩⟩,?_⟩
 clear a d e' f g
 rw[if_neg (by lia)]
 by_cases q:pmid=pmax
 ·rw[if_pos q,q];exact Nat.lt_succ_self _
 ·exact Nat.lt_of_lt_of_le (Nat.mul_lt_mul_of_pos_left (Nat.sub_lt_sub_right (Nat.le_of_lt e) (Nat.lt_of_le_of_ne c q)) (by decide)) (Nat.le_add_right _ _)
theorem ztu (a b:Nat):(if (b:Int)<(a:Int) then(b:Int) else(a:Int))=((min a b:Nat):Int):=by
 rcases Nat.lt_or_ge b a with h | h
 ·rw[if_pos (Int.ofNat_lt.mpr h),Nat.min_eq_right (Nat.le_of_lt h)]
 ·rw[if_neg (fun q=>Nat.not_lt.mpr h (Int.ofNat_lt.mp q)),Nat.min_eq_left h]
theorem zrf {a b:Nat} (h:b≤a):((a:Int)-(b:Int))/2+(b:Int)=(((a-b)/2+b:Nat):Int):=by rw[←Int.ofNat_sub h];rfl
theorem zkt (x:Tx):lcp [] x=0:=by simp[lcp]
theorem zkx (x:Tx):lcp x []=0:=by cases x<;>simp[lcp]
theorem ssn {P:PC}{s:Sm}{Q:Fl→St→Prop}{σ:St} (h:wpS P s Q σ):zs P [s] Q σ:=by
 have e: ∀F:Fl→St→Prop,(∀fl σ,F fl σ=Q fl σ)→wpS P s F σ:=fun F hF=>by
  rw[show F=Q from funext fun _=>funext fun _=>hF _ _];exact h
 exact e _ fun fl σ=>by cases fl<;>rfl
noncomputable abbrev hvS (self:V) (a b:Tx) (pmin pmax pmid pst:Nat) (m:Mem):St:=⟨[some self,some (.str a),some (.str b),some (.int pmin),some (.int pmax),some (.int pmid),some (.int pst)],m⟩
inductive IH (self:V) (a b:Tx) (m:Mem) (N L n:Nat) (σ:St):Prop
 | mk (pmin pmax pmid:Nat):σ=hvS self a b pmin pmax pmid pmin m→Half N L pmin pmax pmid→n=2 * (pmax-pmin)+(if pmid=pmax then 1 else 0)→IH self a b m N L n σ
theorem znl {P:PC}{self:V}{a b:Tx}{m:Mem}{N L:Nat}{c:Ex}{QQ:Fl→St→Prop} (hN:N≤1000000) (hL:L≤N)
  (hc: ∀pmin pmax pmid:Nat,Half N L pmin pmax pmid→pmin<pmid→∀K:Bool→St→Prop,K (decide (pmid≤L)) (hvS self a b pmin pmax pmid pmin m)→wpT P c (wpE P c) K (hvS self a b pmin pmax pmid pmin m))
  (h: ∀x y z:Nat,QQ .next (hvS self a b x y L z m)):
  wpS P (.whl (.cmp (.var 3) [.Lt] [.var 5]) [
   .ife c [
    .assign [.var 3] (.var 5),
    .assign [.var 6] (.var 3)] [
    .assign [.var 4] (.var 5)],
   .assign [.var 5] (.bin .Add (.bin .FloorDiv (.bin .Sub (.var 4) (.var 3)) (.lit (.int 2))) (.var 3))]) QQ (hvS self a b 0 N N 0 m):=by
 rw[r_swhl]
 refine⟨IH self a b m N L,⟨_,0,N,N,rfl,⟨Nat.zero_le _,Nat.zero_le _,Nat.le_refl _,Nat.le_refl _,hL,.inl rfl⟩,rfl⟩,?_⟩
 rintro n σ' ⟨pmin,pmax,pmid,rfl,H,rfl⟩
 have T: ∀K:Bool→St→Prop,K (decide ((pmin:Int)<pmid)) (hvS self a b pmin pmax pmid pmin m)→wpT P (.cmp (.var 3) [.Lt] [.var 5]) (wpE P (.cmp (.var 3) [.Lt] [.var 5])) K (hvS self a b pmin pmax pmid pmin m):=fun K k=>by
  walk_at "D";exact k
 refine T _ ?_
 by_cases hlt:pmin<pmid
 ·refine yV (by exact Int.ofNat_lt.mpr ‹_›) ?_
  refine za fun Q1 n1 r1=>zi fun K kt kf=>hc pmin pmax pmid H hlt K ?_
  by_cases hk:pmid≤L
  ·rw[decide_eq_true hk]
   obtain⟨H',M⟩:=z0q H hlt hk
   refine kt _ (za fun Q2 n2 r2=>?_)
   walk_at "D"
   refine n2 _ (ssn ?_)
   walk_at "D"
   refine n1 _ (ssn ?_)
   walk_at "D"
   refine⟨by decide,by walk_at "t",_,M,pmid,pmax,_,?_,H',rfl⟩
   rw[zrf H.c]
  ·rw[decide_eq_false hk]
   obtain⟨H',M⟩:=zte H hlt hk
   refine kf _ (ssn ?_)
   walk_at "D"
   refine n1 _ (ssn ?_)
   walk_at "D"
   refine⟨by decide,by walk_at "t",_,M,pmin,pmid,_,?_,H',rfl⟩
   rw[zrf H.b]
 ·refine zb6 (by exact Int.not_lt.mpr (zc 347510502130220 rfl hlt)) ?_
  rw[zy1 H (by exact Nat.le_of_not_lt ‹_›)]
  exact h _ _ _
theorem ze5 (P:PC) (self:V) (a b:Tx) (m:Mem) (ha:sma a.length) (hb:sma b.length) (Q:V→Mem→Prop) (q:Q (.int (lcp a b)) m):
  zs P zO (fun fl σ'=>Q (retV fl) σ'.mem) ⟨[self,.str a,.str b].map some++List.replicate 4 none,m⟩:=by
 show zs P _ _ ⟨[some self,some (.str a),some (.str b),none,none,none,none],m⟩
 unfold zO
 refine za fun Q1 n1 r1=>zi fun K kt kf=>?_
 have no:lcp a b=0→K true ⟨[some self,some (.str a),some (.str b),none,none,none,none],m⟩:=fun e=>kt _ (ssn (r1 _ _ (by rw[e] at q;exact q)))
 walk_at "D"
 refine⟨ha,?_⟩
 cases a with
 | nil=>exact no (zkt b)
 | cons x as=>
 refine⟨hb,?_⟩
 cases b with
 | nil=>exact no (zkx _)
 | cons y bs=>
 have t0:tiny 0:=by walk_at "t"
 refine⟨t0,x,yA (x::as) 0 (by simp),t0,y,yA (y::bs) 0 (by simp),?_⟩
 by_cases hxy:x=y
 ·rw[decide_eq_true (by rw[hxy]:[x]=[y])]
  have L0:=zV (x::as) (y::bs)
  refine kf _ (zd (n1 _ ?_))
  generalize x::as=a at *
  generalize y::bs=b at *
  refine za fun Q2 n2 r2=>?_
  walk_at "D"
  refine n2 _ (za fun Q3 n3 r3=>?_)
  walk_at "D"
  refine⟨ha,hb,n3 _ (za fun Q4 n4 r4=>?_)⟩
  rw[ztu]
  walk_at "D"
  refine n4 _ (za fun Q5 n5 r5=>?_)
  walk_at "D"
  refine n5 _ (za fun Q6 n6 r6=>?_)
  refine znl (N:=min a.length b.length) (L:=lcp a b) (by unfold sma at ha;exact zc 40751406487290879701028805005017640 rfl ha (Nat.min_le_left _ _)) (by lia) (fun pmin pmax pmid H hlt K' k=>?_) fun x y z=>n6 _ (ssn q)
  have h1:pmid≤a.length:=by have:=H.c;have:=H.d;grind
  have h2:pmid≤b.length:=by have:=H.c;have:=H.d;lia
  walk_at "D"
  refine⟨ha,hb,?_⟩
  rw[ziq _ H.b h1,ziq _ H.b h2]
  have e0:=(yU pmin a b (ntr H.b h1) (ntr H.b h2)).mp H.a
  have key:=(zmr H.b e0).trans (yU pmid a b h1 h2).symm
  rw[decide_eq_decide.mpr key]
  exact k
 ·rw[decide_eq_false (fun z=>hxy (List.cons.inj z).1)]
  exact no (by unfold lcp;rw[if_neg hxy])
theorem zqx (xs:Tx) {k l:Nat} (h0:0<k) (h1:l≤k) (h2:k≤xs.length):zcq xs (some (-(k:Int))) (some ((xs.length:Int)-(l:Int)))=((xs.reverse.drop l).take (k-l)).reverse:=by
 obtain⟨n,hn⟩: ∃n,xs.length=k+n:=⟨_,(Nat.add_sub_cancel' h2).symm⟩
 obtain⟨i,rfl⟩: ∃i,k=l+i:=⟨_,(Nat.add_sub_cancel' h1).symm⟩
 have e1:((xs.length:Int)-(l:Int))=((n+i:Nat):Int):=by rw[hn];exact Int.le_antisymm (zf 337044959070012405296 rfl) (zf 659509700740509642288 rfl)
 have e2:xs.length-(l+i)=n:=by rw[hn];exact Nat.add_sub_cancel_left ..
 have e3:xs.length-l=n+i:=by rw[hn,Nat.add_assoc,Nat.add_sub_cancel_left,Nat.add_comm]
 unfold zcq zfp zh3
 simp only[Option.elim]
 rw[zlt h0 h2,e1,zfs,Nat.min_eq_left (by rw[hn,Nat.add_assoc,Nat.add_comm n i];exact Nat.le_add_left ..),e2,Nat.add_sub_cancel_left,Nat.add_sub_cancel_left]
 rw[List.drop_reverse,List.take_reverse,List.reverse_reverse,List.length_take,Nat.min_eq_left (by rw[e3,hn,Nat.add_assoc,Nat.add_comm n i];exact Nat.le_add_left ..),List.drop_take,e3,Nat.add_sub_cancel,Nat.add_sub_cancel_left]
noncomputable def za1:List Str:=["self","text1","text2"]
noncomputable def zaf:List Str:=["pointermin","pointermax","pointermid","pointerend"]
noncomputable def zcy:List (Str×NameKind):=[("min",.globalImplicit),("len",.globalImplicit)]
noncomputable def zQ:List Sm:=[
  .ife (.bor [.not (.var 1),.not (.var 2),.cmp (.idx (.var 1) (.neg (.lit (.int 1)))) [.NotEq] [.idx (.var 2) (.neg (.lit (.int 1)))]]) [
   .ret (.lit (.int 0))] [],
  .assign [.var 3] (.lit (.int 0)),
  .assign [.var 4] (.bi .min [.bi .len [.var 1],.bi .len [.var 2]]),
  .assign [.var 5] (.var 4),
  .assign [.var 6] (.lit (.int 0)),
  .whl (.cmp (.var 3) [.Lt] [.var 5]) [
   .ife (.cmp (.slc (.var 1) (.neg (.var 5)) (.bin .Sub (.bi .len [.var 1]) (.var 6)) (.lit .none)) [.Eq] [.slc (.var 2) (.neg (.var 5)) (.bin .Sub (.bi .len [.var 2]) (.var 6)) (.lit .none)]) [
    .assign [.var 3] (.var 5),
    .assign [.var 6] (.var 3)] [
    .assign [.var 4] (.var 5)],
   .assign [.var 5] (.bin .Add (.bin .FloorDiv (.bin .Sub (.var 4) (.var 3)) (.lit (.int 2))) (.var 3))],
  .ret (.var 5)]
theorem zq2 (xs:Tx) (x:Char) (as:Tx) (h:xs.reverse=x::as):xs[xs.length-1]? =some x:=by
 have e:xs=as.reverse++[x]:=by rw[←List.reverse_reverse xs,h];simp
 subst e;simp
theorem ze8 (P:PC) (self:V) (a b:Tx) (m:Mem) (ha:sma a.length) (hb:sma b.length) (Q:V→Mem→Prop) (q:Q (.int (lcs a b)) m):
  zs P zQ (fun fl σ'=>Q (retV fl) σ'.mem) ⟨[self,.str a,.str b].map some++List.replicate 4 none,m⟩:=by
 show zs P _ _ ⟨[some self,some (.str a),some (.str b),none,none,none,none],m⟩
 unfold zQ
 refine za fun Q1 n1 r1=>zi fun K kt kf=>?_
 have no:lcs a b=0→K true ⟨[some self,some (.str a),some (.str b),none,none,none,none],m⟩:=fun e=>kt _ (ssn (r1 _ _ (by rw[e] at q;exact q)))
 walk_at "D"
 refine⟨ha,?_⟩
 cases a':a.reverse with
 | nil=>
  rw[List.reverse_eq_nil_iff.mp a'] at no ⊢
  exact no (zkt _)
 | cons x as=>
 cases b':b.reverse with
 | nil=>
  have na:a.isEmpty=false:=by cases a with | nil=>cases a' | cons=>rfl
  rw[na]
  refine⟨hb,?_⟩
  rw[List.reverse_eq_nil_iff.mp b'] at no ⊢
  exact no (zkx _)
 | cons y bs=>
 have na:a.isEmpty=false:=by cases a with | nil=>cases a' | cons=>rfl
 have nb:b.isEmpty=false:=by cases b with | nil=>cases b' | cons=>rfl
 have pa:0<a.length:=by rw[←List.length_reverse,a'];exact Nat.succ_pos _
 have pb:0<b.length:=by rw[←List.length_reverse,b'];exact Nat.succ_pos _
 rw[na]
 refine⟨hb,?_⟩
 rw[nb]
 have t1:tiny (-1):=by walk_at "t"
 refine⟨t1,x,(zc1 a pa).trans (zq2 a x as a'),t1,y,(zc1 b pb).trans (zq2 b y bs b'),?_⟩
 by_cases hxy:x=y
 ·rw[decide_eq_true (by rw[hxy]:[x]=[y])]
  have L0:=zcg a b
  refine kf _ (zd (n1 _ (za fun Q2 n2 r2=>?_)))
  walk_at "D"
  refine n2 _ (za fun Q3 n3 r3=>?_)
  walk_at "D"
  refine⟨ha,hb,n3 _ (za fun Q4 n4 r4=>?_)⟩
  rw[ztu]
  walk_at "D"
  refine n4 _ (za fun Q5 n5 r5=>?_)
  walk_at "D"
  refine n5 _ (za fun Q6 n6 r6=>?_)
  refine znl (N:=min a.length b.length) (L:=lcs a b) (by unfold sma at ha;exact zc 40751406487290879701028805005017640 rfl ha (Nat.min_le_left _ _)) (by lia) (fun pmin pmax pmid H hlt K' k=>?_) fun x y z=>n6 _ (ssn q)
  have h1:pmid≤a.length:=by have:=H.c;have:=H.d;grind
  have h2:pmid≤b.length:=by have:=H.c;have:=H.d;lia
  have h0:0<pmid:=Nat.lt_of_le_of_lt (Nat.zero_le _) hlt
  walk_at "D"
  refine⟨ha,ha,hb,hb,?_⟩
  rw[zqx _ h0 H.b h1,zqx _ h0 H.b h2]
  have r1':pmid≤a.reverse.length:=by rw[List.length_reverse];exact h1
  have r2':pmid≤b.reverse.length:=by rw[List.length_reverse];exact h2
  have e0:=(yU pmin a.reverse b.reverse (ntr H.b r1') (ntr H.b r2')).mp H.a
  have key:=(zmr H.b e0).trans (yU pmid a.reverse b.reverse r1' r2').symm
  rw[decide_eq_decide.mpr (List.reverse_inj.trans key)]
  exact k
 ·rw[decide_eq_false (fun z=>hxy (List.cons.inj z).1)]
  exact no (by unfold lcs;rw[a',b'];unfold lcp;rw[if_neg hxy])
noncomputable def za8:List Str:=["self","diffs"]
noncomputable def zar:List Str:=["pointer","count_delete","count_insert","text_delete","text_insert","commonlength","x","new_ops","changes"]
noncomputable def zc4:List (Str×NameKind):=[("len",.globalImplicit)]
noncomputable def zda:List Str:=[]
noncomputable def yF:List Sm:=[
  .aug 4 .Add (.lit (.int 1)),
  .aug 6 .Add (.idx (.idx (.var 1) (.var 2)) (.lit (.int 1))),
  .aug 2 .Add (.lit (.int 1))]
noncomputable def yE:List Sm:=[
  .aug 3 .Add (.lit (.int 1)),
  .aug 5 .Add (.idx (.idx (.var 1) (.var 2)) (.lit (.int 1))),
  .aug 2 .Add (.lit (.int 1))]
noncomputable def za5:List Sm:=[
  .expr (.me (.var 1) .insert [.lit (.int 0),.tup [.attr (.var 0) "DIFF_EQUAL",.slc (.var 6) (.lit .none) (.var 7) (.lit .none)]]),
  .aug 2 .Add (.lit (.int 1))]
noncomputable def yJ:List Sm:=[
  .assign [.var 8] (.bin .Sub (.bin .Sub (.bin .Sub (.var 2) (.var 3)) (.var 4)) (.lit (.int 1))),
  .ife (.band [.cmp (.var 8) [.GtE] [.lit (.int 0)],.cmp (.idx (.idx (.var 1) (.var 8)) (.lit (.int 0))) [.Eq] [.attr (.var 0) "DIFF_EQUAL"]]) [
   .assign [.idx (.var 1) (.var 8)] (.tup [.idx (.idx (.var 1) (.var 8)) (.lit (.int 0)),.bin .Add (.idx (.idx (.var 1) (.var 8)) (.lit (.int 1))) (.slc (.var 6) (.lit .none) (.var 7) (.lit .none))])] za5,
  .assign [.var 6] (.slc (.var 6) (.var 7) (.lit .none) (.lit .none)),
  .assign [.var 5] (.slc (.var 5) (.var 7) (.lit .none) (.lit .none))]
noncomputable def yB:List Sm:=[
  .assign [.idx (.var 1) (.var 2)] (.tup [.idx (.idx (.var 1) (.var 2)) (.lit (.int 0)),.bin .Add (.slc (.var 6) (.neg (.var 7)) (.lit .none) (.lit .none)) (.idx (.idx (.var 1) (.var 2)) (.lit (.int 1)))]),
  .assign [.var 6] (.slc (.var 6) (.lit .none) (.neg (.var 7)) (.lit .none)),
  .assign [.var 5] (.slc (.var 5) (.lit .none) (.neg (.var 7)) (.lit .none))]
noncomputable def yI:List Sm:=[
  .assign [.var 7] (.imeth (.var 0) "diff_commonPrefix" [.var 6,.var 5]),
  .ife (.cmp (.var 7) [.NotEq] [.lit (.int 0)]) yJ [],
  .assign [.var 7] (.imeth (.var 0) "diff_commonSuffix" [.var 6,.var 5]),
  .ife (.cmp (.var 7) [.NotEq] [.lit (.int 0)]) yB []]
noncomputable def yD:List Sm:=[
  .ife (.band [.cmp (.var 3) [.NotEq] [.lit (.int 0)],.cmp (.var 4) [.NotEq] [.lit (.int 0)]]) yI [],
  .assign [.var 9] (.list []),
  .ife (.cmp (.bi .len [.var 5]) [.NotEq] [.lit (.int 0)]) [
   .expr (.me (.var 9) .append [.tup [.attr (.var 0) "DIFF_DELETE",.var 5]])] [],
  .ife (.cmp (.bi .len [.var 6]) [.NotEq] [.lit (.int 0)]) [
   .expr (.me (.var 9) .append [.tup [.attr (.var 0) "DIFF_INSERT",.var 6]])] [],
  .aug 2 .Sub (.bin .Add (.var 3) (.var 4)),
  .assign [.slc (.var 1) (.var 2) (.bin .Add (.bin .Add (.var 2) (.var 3)) (.var 4))] (.var 9),
  .aug 2 .Add (.bin .Add (.bi .len [.var 9]) (.lit (.int 1)))]
noncomputable def zE:List Sm:=[
  .assign [.idx (.var 1) (.bin .Sub (.var 2) (.lit (.int 1)))] (.tup [.idx (.idx (.var 1) (.bin .Sub (.var 2) (.lit (.int 1)))) (.lit (.int 0)),.bin .Add (.idx (.idx (.var 1) (.bin .Sub (.var 2) (.lit (.int 1)))) (.lit (.int 1))) (.idx (.idx (.var 1) (.var 2)) (.lit (.int 1)))]),
  .del (.var 1) (.var 2)]
noncomputable def yH:List Sm:=[
  .ife (.cmp (.bin .Add (.var 3) (.var 4)) [.Gt] [.lit (.int 1)]) yD [
   .ife (.band [.cmp (.var 2) [.NotEq] [.lit (.int 0)],.cmp (.idx (.idx (.var 1) (.bin .Sub (.var 2) (.lit (.int 1)))) (.lit (.int 0))) [.Eq] [.attr (.var 0) "DIFF_EQUAL"]]) zE [
    .aug 2 .Add (.lit (.int 1))]],
  .assign [.var 4] (.lit (.int 0)),
  .assign [.var 3] (.lit (.int 0)),
  .assign [.var 5] (.lit (.str [])),
  .assign [.var 6] (.lit (.str []))]
noncomputable def z8:List Sm:=[
  .ife (.cmp (.idx (.idx (.var 1) (.var 2)) (.lit (.int 0))) [.Eq] [.attr (.var 0) "DIFF_INSERT"]) yF [
   .ife (.cmp (.idx (.idx (.var 1) (.var 2)) (.lit (.int 0))) [.Eq] [.attr (.var 0) "DIFF_DELETE"]) yE [
    .ife (.cmp (.idx (.idx (.var 1) (.var 2)) (.lit (.int 0))) [.Eq] [.attr (.var 0) "DIFF_EQUAL"]) yH []]]]
noncomputable def zas:List Sm:=[
  .assign [.idx (.var 1) (.var 2)] (.tup [.idx (.idx (.var 1) (.var 2)) (.lit (.int 0)),.bin .Add (.idx (.idx (.var 1) (.bin .Sub (.var 2) (.lit (.int 1)))) (.lit (.int 1))) (.slc (.idx (.idx (.var 1) (.var 2)) (.lit (.int 1))) (.lit .none) (.neg (.bi .len [.idx (.idx (.var 1) (.bin .Sub (.var 2) (.lit (.int 1)))) (.lit (.int 1))])) (.lit .none))]),
  .assign [.idx (.var 1) (.bin .Add (.var 2) (.lit (.int 1)))] (.tup [.idx (.idx (.var 1) (.bin .Add (.var 2) (.lit (.int 1)))) (.lit (.int 0)),.bin .Add (.idx (.idx (.var 1) (.bin .Sub (.var 2) (.lit (.int 1)))) (.lit (.int 1))) (.idx (.idx (.var 1) (.bin .Add (.var 2) (.lit (.int 1)))) (.lit (.int 1)))])]
noncomputable def zX:List Sm:=[
  .ife (.cmp (.idx (.idx (.var 1) (.bin .Sub (.var 2) (.lit (.int 1)))) (.lit (.int 1))) [.NotEq] [.lit (.str [])]) zas [],
  .del (.var 1) (.bin .Sub (.var 2) (.lit (.int 1))),
  .assign [.var 10] (.lit (.bool true))]
noncomputable def zW:List Sm:=[
  .assign [.idx (.var 1) (.bin .Sub (.var 2) (.lit (.int 1)))] (.tup [.idx (.idx (.var 1) (.bin .Sub (.var 2) (.lit (.int 1)))) (.lit (.int 0)),.bin .Add (.idx (.idx (.var 1) (.bin .Sub (.var 2) (.lit (.int 1)))) (.lit (.int 1))) (.idx (.idx (.var 1) (.bin .Add (.var 2) (.lit (.int 1)))) (.lit (.int 1)))]),
  .assign [.idx (.var 1) (.var 2)] (.tup [.idx (.idx (.var 1) (.var 2)) (.lit (.int 0)),.bin .Add (.slc (.idx (.idx (.var 1) (.var 2)) (.lit (.int 1))) (.bi .len [.idx (.idx (.var 1) (.bin .Add (.var 2) (.lit (.int 1)))) (.lit (.int 1))]) (.lit .none) (.lit .none)) (.idx (.idx (.var 1) (.bin .Add (.var 2) (.lit (.int 1)))) (.lit (.int 1)))]),
  .del (.var 1) (.bin .Add (.var 2) (.lit (.int 1))),
  .assign [.var 10] (.lit (.bool true))]
noncomputable def zq:List Sm:=[
  .ife (.band [.cmp (.idx (.idx (.var 1) (.bin .Sub (.var 2) (.lit (.int 1)))) (.lit (.int 0))) [.Eq] [.attr (.var 0) "DIFF_EQUAL"],.cmp (.idx (.idx (.var 1) (.bin .Add (.var 2) (.lit (.int 1)))) (.lit (.int 0))) [.Eq] [.attr (.var 0) "DIFF_EQUAL"]]) [
   .ife (.me (.idx (.idx (.var 1) (.var 2)) (.lit (.int 1))) .endswith [.idx (.idx (.var 1) (.bin .Sub (.var 2) (.lit (.int 1)))) (.lit (.int 1))]) zX [
    .ife (.me (.idx (.idx (.var 1) (.var 2)) (.lit (.int 1))) .startswith [.idx (.idx (.var 1) (.bin .Add (.var 2) (.lit (.int 1)))) (.lit (.int 1))]) zW []]] [],
  .aug 2 .Add (.lit (.int 1))]
noncomputable def zR:List Sm:=[
  .expr (.me (.var 1) .append [.tup [.attr (.var 0) "DIFF_EQUAL",.lit (.str [])]]),
  .assign [.var 2] (.lit (.int 0)),
  .assign [.var 3] (.lit (.int 0)),
  .assign [.var 4] (.lit (.int 0)),
  .assign [.var 5] (.lit (.str [])),
  .assign [.var 6] (.lit (.str [])),
  .whl (.cmp (.var 2) [.Lt] [.bi .len [.var 1]]) z8,
  .ife (.cmp (.idx (.idx (.var 1) (.neg (.lit (.int 1)))) (.lit (.int 1))) [.Eq] [.lit (.str [])]) [
   .expr (.me (.var 1) .pop [])] [],
  .assign [.var 10] (.lit (.bool false)),
  .assign [.var 2] (.lit (.int 1)),
  .whl (.cmp (.var 2) [.Lt] [.bin .Sub (.bi .len [.var 1]) (.lit (.int 1))]) zq,
  .ife (.var 10) [
   .expr (.imeth (.var 0) "diff_cleanupMerge" [.var 1])] []]
noncomputable def pv (p:zG):V:= .tup [.int p.1,.str p.2]
noncomputable def rv (r:Row):List V:=r.map pv
theorem zb2 (a b:Row):rv (a++b)=rv a++rv b:=List.map_append
theorem z6 (a:Row):(rv a).length=a.length:=List.length_map ..
theorem zu0 {α β:Type} (f:α→β) (xs:List α) (i:Int):zH (xs.map f) i=(zH xs i).map f:=by
 unfold zH
 rw[List.length_map]
 cases seqIndex? i xs.length with
 | none=>rfl
 | some j=>simp
theorem zaz {α:Type} (A:List α) (x:α) (B:List α) {k:Int} (h:k=(A.length:Nat)):zH (A++x::B) k=some x:=by
 subst h
 rw[yA _ _ (by simp)]
 simp
theorem z2y {α:Type} (A:List α) (x:α) (B:List α) {k:Int} (h:k=(A.length:Nat)):zpz (A++x::B).length k=some A.length:=by
 subst h
 unfold zpz seqIndex?
 have e:(if (A.length:Int)<0 then(A.length:Int)+(A++x::B).length else(A.length:Int))=A.length:=if_neg (by exact Int.not_lt.mpr (zw 983088 rfl))
 simp only[e]
 rw[if_pos (by simp;exact zc 284198049947185 rfl)];simp
theorem z6d {α:Type} (A:List α) (x y:α) (B:List α):(A++x::B).set A.length y=A++y::B:=by simp
theorem zx6 {α:Type} (A:List α) (x:α) (B:List α):(A++x::B).eraseIdx A.length=A++B:=by
 induction A with
 | nil=>rfl
 | cons a A ih=>simpa using ih
noncomputable def Ext (d:Addr) (m m':Mem):Prop:= ∀a o,a≠d→m a=some o→m' a=some o
theorem Ext.refl (d:Addr) (m:Mem):Ext d m m:=fun _ _ _ e=>e
theorem Ext.trans {d:Addr}{m m' m'':Mem} (x:Ext d m m') (y:Ext d m' m''):Ext d m m'':=fun a o h e=>y a o h (x a o h e)
theorem Ext.upd (d:Addr) (m:Mem) (o:O):Ext d m (upd m d o):=fun a x h e=>by rw[upn _ _ h];exact e
theorem Ext.new {d a:Addr}{m:Mem} (h:m a=none) (o:O):Ext d m (Mine.Internal.upd m a o):=fun b x _ e=>by
 rw[upn _ _ (fun q=>by subst q;rw[h] at e;cases e)];exact e
theorem Ext.newIn {d a:Addr}{m m':Mem} (x:Ext d m m') (h:m a=none) (o:O):Ext d m (Mine.Internal.upd m' a o):=fun b y hb e=>by
 rw[upn _ _ (fun q=>by subst q;rw[h] at e;cases e)];exact x b y hb e
section
variable {P:PC}{m:Mem}{K:V→Prop}
theorem zf4 (n:Nat) (h:n<1000):tiny (n:Int):=tiny_n (zw 1186022025138818233926185 rfl h)
theorem zj {d:Addr}{L:Row}{k:Int}{q:zG} (hm:m d=some (.list (rv L))) (hk:tiny k) (hg:zH L k=some q) (h:K (pv q)):zju m (.obj d) (.int k) K:=
 ⟨hk,_,pv q,hm,by unfold rv;rw[zu0,hg];rfl,h⟩
theorem zah {q:zG} (h:K (.int q.1)):zju m (pv q) (.int 0) K:=⟨zf4 0 (by exact Nat.succ_pos _),_,rfl,h⟩
theorem zN {q:zG} (h:K (.str q.2)):zju m (pv q) (.int 1) K:=⟨zf4 1 (by exact Nat.le_add_left ..),_,rfl,h⟩
noncomputable def zti:List String:=["DIFF_DELETE","DIFF_INSERT","DIFF_EQUAL","diff_commonPrefix","diff_commonSuffix","diff_cleanupMerge","diff_main","diff_compute","diff_bisect","diff_bisectSplit","diff_halfMatch","diff_xIndex","diff_text1","diff_text2","diff_levenshtein","diff_cleanupEfficiency"]
noncomputable def zge (n:String):Bool:=zti.contains n
noncomputable def zd6 (P:PC) (m:Mem) (t:Addr):Prop:= ∃dd fs,m t=some (.inst P.cls dd)∧m dd=some (.dict fs)∧∀n,zge n=true→yT n fs=none
theorem zd6.ext {t d:Addr}{m':Mem} (h:zd6 P m t) (hd: ∃l,m d=some (.list l)) (x:Ext d m m'):zd6 P m' t:=by
 obtain⟨dd,fs,h1,h2,h3⟩:=h
 obtain⟨l,hl⟩:=hd
 refine⟨dd,fs,x _ _ (fun q=>?_) h1,x _ _ (fun q=>?_) h2,h3⟩
 ·rw[q,hl] at h1;cases h1
 ·rw[q,hl] at h2;cases h2
theorem zfq {t:Addr}{n:String}{v:V} (h:zd6 P m t) (hf:zge n=true) (hc:P.cc n=some v) (q:K v):ziy P m (.obj t) n K:=by
 obtain⟨dd,fs,h1,h2,h3⟩:=h
 refine⟨dd,fs,h1,h2,?_⟩
 rw[h3 n hf]
 exact⟨v,hc,q⟩
theorem zr2 {t:Addr}{n:String} (h:zd6 P m t) (hf:zge n=true): ∃a d fs,V.obj t= .obj a∧m a=some (.inst P.cls d)∧m d=some (.dict fs)∧yT n fs=none:=by
 obtain⟨dd,fs,h1,h2,h3⟩:=h
 exact⟨t,dd,fs,rfl,h1,h2,h3 n hf⟩
end
structure Cm (P:PC):Prop where
 cD:zge "DIFF_DELETE"=true∧P.cc "DIFF_DELETE"=some (.int (-1))
 cI:zge "DIFF_INSERT"=true∧P.cc "DIFF_INSERT"=some (.int 1)
 cE:zge "DIFF_EQUAL"=true∧P.cc "DIFF_EQUAL"=some (.int 0)
 fp:zge "diff_commonPrefix"=true
 fs:zge "diff_commonSuffix"=true
 fm:zge "diff_cleanupMerge"=true
 cp: ∀{s:V} {x y:Tx} {Q:V→Mem→Prop} {m:Mem},sma x.length→sma y.length→Q (.int (lcp x y)) m→P.meth "diff_commonPrefix" [s,.str x,.str y] Q m
 cs: ∀{s:V} {x y:Tx} {Q:V→Mem→Prop} {m:Mem},sma x.length→sma y.length→Q (.int (lcs x y)) m→P.meth "diff_commonSuffix" [s,.str x,.str y] Q m
noncomputable abbrev cmS (t d:Addr) (p cd ci:Int) (td ti:Tx) (x7 x8 x9 x10:Option V) (m:Mem):St:=
 ⟨[some (.obj t),some (.obj d),some (.int p),some (.int cd),some (.int ci),some (.str td),some (.str ti),x7,x8,x9,x10],m⟩
section
variable {P:PC}{Q:Fl→St→Prop}{t d:Addr}{td ti:Tx}{x7 x8 x9 x10:Option V}{m:Mem}
theorem z7j {L:Row}{p cd ci:Int}{q:zG} (hm:m d=some (.list (rv L))) (hp:tiny p) (hg:zH L p=some q) (h1:sma ti.length) (h2:sma q.2.length)
  (h:Q .next (cmS t d (p+1) cd (ci+1) td (ti++q.2) x7 x8 x9 x10 m)):zs P yF Q (cmS t d p cd ci td ti x7 x8 x9 x10 m):=by
 unfold yF
 walk_at "D"
 refine zj hm hp hg (zN ?_)
 walk_at "D"
 exact⟨h1,h2,h⟩
theorem z8b {L:Row}{p cd ci:Int}{q:zG} (hm:m d=some (.list (rv L))) (hp:tiny p) (hg:zH L p=some q) (h1:sma td.length) (h2:sma q.2.length)
  (h:Q .next (cmS t d (p+1) (cd+1) ci (td++q.2) ti x7 x8 x9 x10 m)):zs P yE Q (cmS t d p cd ci td ti x7 x8 x9 x10 m):=by
 unfold yE
 walk_at "D"
 refine zj hm hp hg (zN ?_)
 walk_at "D"
 exact⟨h1,h2,h⟩
theorem zkm (A B:Row) (q q':zG):(rv (A++q::B)).set A.length (pv q')=rv (A++q'::B):=by
 unfold rv
 rw[List.map_append,List.map_append,List.map_cons,List.map_cons]
 have:=z6d (A.map pv) (pv q) (pv q') (B.map pv)
 rwa [List.length_map] at this
theorem zle (A B:Row) (q:zG):(rv (A++q::B)).eraseIdx A.length=rv (A++B):=by
 unfold rv
 rw[List.map_append,List.map_append,List.map_cons]
 have:=zx6 (A.map pv) (pv q) (B.map pv)
 rwa [List.length_map] at this
theorem zpc (A B:Row) (q:zG) {k:Int} (h:k=(A.length:Nat)):zpz (rv (A++q::B)).length k=some A.length:=by
 rw[z6];exact z2y _ _ _ h
theorem zj9 {x:Tx}{k:Nat} (h0:0<k) (h:k≤x.length):zcq x (some (-(k:Int))) none=x.drop (x.length-k):=by
 unfold zcq zfp zh3
 simp only[Option.elim]
 rw[zlt h0 h,List.take_of_length_le (by simp)]
theorem zev {x:Tx}{k:Nat} (h0:0<k) (h:k≤x.length):zcq x none (some (-(k:Int)))=x.take (x.length-k):=by
 unfold zcq zfp zh3
 simp only[Option.elim]
 rw[zlt h0 h];simp
theorem zos {done:Row} (h:Dn done) (x:Tx):(zS done x).length=done.length+(if done=[] then 1 else 0):=by
 rcases h with rfl | ⟨dn,u,rfl⟩
 ·rfl
 ·rw[zt];simp
theorem zdm {n k:Nat} (h:n≤k) (hk:sma k):sma n:=by unfold sma at *;exact ntr ‹_› ‹_›
theorem z8w (c:Cm P) {done rest:Row}{p cd ci:Int}{k:Nat} (hT:zd6 P m t) (hm:m d=some (.list (rv (done++rest)))) (hdn:Dn done) (hp:p-cd-ci=(done.length:Int)) (hL:sma (done++rest).length) (hk:k≤ti.length) (hk2:k≤td.length) (h1:sma ti.length) (h2:sma td.length)
  (hu: ∀q∈done,sma q.2.length)
  (h: ∀m' x8 (p':Int),p'=p+(zS done (ti.take k)).length-done.length→m' d=some (.list (rv (zS done (ti.take k)++rest)))→Ext d m m'→Q .next (cmS t d p' cd ci (td.drop k) (ti.drop k) (some (.int k)) x8 x9 x10 m')):
  zs P yJ Q (cmS t d p cd ci td ti (some (.int k)) x8 x9 x10 m):=by
 have tail: ∀m' (p':Int) x8',Q .next (cmS t d p' cd ci (td.drop k) (ti.drop k) (some (.int k)) x8' x9 x10 m')→
   zs P [.assign [.var 6] (.slc (.var 6) (.var 7) (.lit .none) (.lit .none)),.assign [.var 5] (.slc (.var 5) (.var 7) (.lit .none) (.lit .none))] Q (cmS t d p' cd ci td ti (some (.int k)) x8' x9 x10 m'):=fun m' p' x8' q=>by
  walk_at "D"
  refine⟨h1,h2,?_⟩
  rw[zJ ti hk,zJ td hk2]
  exact q
 have e0:p-cd-ci-1=(done.length:Int)-1:=Int.le_antisymm (z66 325127934801976678187923050378786 rfl hp) (z66 329928379248868648576702830091811 rfl hp)
 have hTd: ∃l,m d=some (.list l):=⟨_,hm⟩
 unfold yJ
 refine ssx fun Q1 n1=>?_
 walk_at "D"
 refine n1 _ (ssx fun Q2 n2=>zi fun K kt kf=>?_)
 walk_at "D"
 rw[e0]
 rcases hdn with rfl | ⟨dn,u,rfl⟩
 ·refine zb6 (by simp) (kf _ ?_)
  unfold za5
  refine ssx fun Q3 n3=>?_
  walk_at "D"
  refine⟨hTd,zfq hT c.cE.1 c.cE.2 ⟨h1,by decide,zf4 0 (by exact Nat.succ_pos _),_,hm,by rw[z6];exact hL,n3 _ ?_⟩⟩
  walk_at "D"
  rw[zco ti hk]
  exact n2 _ (tail _ _ _ (h _ _ _ (by simp[zS]) (ups _ _ _) (.upd _ _ _)))
 ·have hg:zH (dn++(0,u)::rest) ((dn++[((0:Int),u)]).length-1:Int)=some ((0:Int),u):=zaz _ _ _ (by simp)
  have hm':m d=some (.list (rv (dn++(0,u)::rest))):=by rw[hm];simp
  have ht:tiny ((dn++[((0:Int),u)]).length-1:Int):=by
   unfold sma at hL;unfold tiny;simp at hL ⊢;exact⟨zw 557856390312627249 rfl,zc 329138271839778529921151422634174452776 rfl hL⟩
  refine yV (by simp) (zj hm' ht hg (zah (zfq hT c.cE.1 c.cE.2 ?_)))
  walk_at "D"
  refine yV rfl (kt _ (ssx fun Q3 n3=>?_))
  walk_at "D"
  refine zj hm' ht hg (zah (zj hm' ht hg (zN ?_)))
  walk_at "D"
  rw[zco ti hk]
  refine⟨h1,hu _ (List.mem_append_right _ (List.mem_singleton.mpr rfl)),zdm (by simp;exact zc 4952567644712 rfl (Nat.min_le_right _ _)) h1,d,_,_,dn.length,rfl,rfl,ht,hm',zpc _ _ _ (by simp),n3 _ (zd (n2 _ (tail _ _ _ (h _ _ _ ?_ ?_ (.upd _ _ _)))))⟩
  ·rw[zt];simp
  ·rw[ups,zt]
   show some (O.list ((rv (dn++(0,u)::rest)).set dn.length (pv (0,u++ti.take k))))=_
   rw[zkm];simp
theorem z74 {A rest:Row}{p cd ci:Int}{k:Nat}{tx:Tx} (hm:m d=some (.list (rv (A++(0,tx)::rest)))) (hp:p=(A.length:Int)) (hs:tiny p) (h0:0<k) (hk:k≤ti.length) (hk2:k≤td.length) (h1:sma ti.length) (h2:sma td.length) (h3:sma tx.length)
  (h: ∀m',m' d=some (.list (rv (A++(0,ti.drop (ti.length-k)++tx)::rest)))→Ext d m m'→Q .next (cmS t d p cd ci (td.take (td.length-k)) (ti.take (ti.length-k)) (some (.int k)) x8 x9 x10 m')):
  zs P yB Q (cmS t d p cd ci td ti (some (.int k)) x8 x9 x10 m):=by
 unfold yB
 refine ssx fun Q1 n1=>?_
 have hg:zH (A++((0:Int),tx)::rest) p=some ((0:Int),tx):=zaz _ _ _ hp
 walk_at "D"
 refine zj hm hs hg (zah ⟨h1,zj hm hs hg (zN ?_)⟩)
 walk_at "D"
 rw[zj9 h0 hk]
 refine⟨zdm (by simp) h1,h3,d,_,_,A.length,rfl,rfl,hs,hm,zpc _ _ _ hp,n1 _ ?_⟩
 walk_at "D"
 refine⟨h1,h2,?_⟩
 rw[zev h0 hk,zev h0 hk2]
 refine h _ ?_ (.upd _ _ _)
 rw[ups]
 exact congrArg (fun l=>some (O.list l)) (zkm A rest (0,tx) (0,ti.drop (ti.length-k)++tx))
end
noncomputable def Gr (m m':Mem):Prop:= ∀a o,m a=some o→m' a=some o
theorem Gr.refl (m:Mem):Gr m m:=fun _ _ e=>e
theorem Gr.trans {m m' m'':Mem} (x:Gr m m') (y:Gr m' m''):Gr m m'':=fun a o e=>y a o (x a o e)
theorem Gr.new {a:Addr}{m:Mem} (h:m a=none) (o:O):Gr m (upd m a o):=fun b x e=>by
 rw[upn _ _ (fun q=>by subst q;rw[h] at e;cases e)];exact e
theorem Gr.set {m m':Mem} (x:Gr m m') {a:Addr} (h:m a=none) (o:O):Gr m (upd m' a o):=fun b y e=>by
 rw[upn _ _ (fun q=>by subst q;rw[h] at e;cases e)];exact x b y e
theorem Gr.fresh {m m':Mem} (g:Gr m m') {a:Addr} (h:m' a=none):m a=none:=by
 cases e:m a with
 | none=>rfl
 | some o=>rw[g a o e] at h;cases h
theorem zd6.gr {P:PC}{m m':Mem}{t:Addr} (h:zd6 P m t) (g:Gr m m'):zd6 P m' t:=by
 obtain⟨dd,fs,h1,h2,h3⟩:=h
 exact⟨dd,fs,g _ _ h1,g _ _ h2,h3⟩
section
variable {P:PC}{Q:Fl→St→Prop}{t d:Addr}{td ti:Tx}{x7 x8 x9 x10:Option V}{m:Mem}
theorem zr9 {q:Trim}:(zM q).done=if lcp q.ti q.td=0 then q.done else zS q.done (q.ti.take (lcp q.ti q.td)):=by
 unfold zM;split<;>rfl
theorem z7g (c:Cm P) {done run rest:Row}{p cd ci:Int}{tx:Tx} (hT:zd6 P m t) (hm:m d=some (.list (rv (done++(run++(0,tx)::rest))))) (hdn:Dn done) (hr:cd+ci=(run.length:Int)) (hp:p=(done.length+run.length:Nat)) (hL:sma (done++(run++(0,tx)::rest)).length)
  (h1:sma ti.length) (h2:sma td.length) (h3:sma tx.length) (hu: ∀q∈done,sma q.2.length)
  (h: ∀m' x7 x8 (p':Int),p'=((zgn ⟨done,td,ti,tx⟩).done.length+run.length:Nat)→m' d=some (.list (rv ((zgn ⟨done,td,ti,tx⟩).done++(run++(0,(zgn ⟨done,td,ti,tx⟩).t)::rest))))→Ext d m m'→
   Q .next (cmS t d p' cd ci (zgn ⟨done,td,ti,tx⟩).td (zgn ⟨done,td,ti,tx⟩).ti x7 x8 x9 x10 m')):
  zs P yI Q (cmS t d p cd ci td ti x7 x8 x9 x10 m):=by
 have L:=zV ti td
 unfold yI
 refine ssx fun Q1 n1=>?_
 walk_at "D"
 refine⟨zr2 hT c.fp,c.cp h1 h2 (n1 _ (ssx fun Q2 n2=>?_))⟩
 have mid: ∀m' x8 (p':Int),p'=((zM ⟨done,td,ti,tx⟩).done.length+run.length:Nat)→m' d=some (.list (rv ((zM ⟨done,td,ti,tx⟩).done++(run++(0,tx)::rest))))→Ext d m m'→
   Q2 .next (cmS t d p' cd ci (zM ⟨done,td,ti,tx⟩).td (zM ⟨done,td,ti,tx⟩).ti (some (.int (lcp ti td:Nat))) x8 x9 x10 m'):=fun m' x8 p' hp' hm' hx=>by
  have s1:sma (zM ⟨done,td,ti,tx⟩).ti.length:=by unfold zM;split<;>first | exact h1 | exact zdm (by simp) h1
  have s2:sma (zM ⟨done,td,ti,tx⟩).td.length:=by unfold zM;split<;>first | exact h2 | exact zdm (by simp) h2
  have ht:(zM ⟨done,td,ti,tx⟩).t=tx:=by unfold zM;split<;>rfl
  have e:zgn ⟨done,td,ti,tx⟩=ze2 (zM ⟨done,td,ti,tx⟩):=rfl
  rw[e] at h
  have hdA:(ze2 (zM ⟨done,td,ti,tx⟩)).done=(zM ⟨done,td,ti,tx⟩).done:=(zph _).2
  have hLA:sma (zM ⟨done,td,ti,tx⟩).done.length:=by
   have:(zM ⟨done,td,ti,tx⟩).done.length≤done.length+1:=by
    rw[zr9];dsimp only;split
    ·exact Nat.le_add_right ..
    ·rw[zos hdn];split
     ·exact zw 550431102008 rfl
     ·exact zw 550426907704 rfl
   refine zdm this ?_
   unfold sma at hL ⊢;simp at hL;exact zf 5341368351015077358781654100418656998440 rfl hL
  have hLr:sma run.length:=zdm (by simp;exact zf 572433917149752 rfl) hL
  generalize zM ⟨done,td,ti,tx⟩=q at *
  have L2:=zcg q.ti q.td
  refine n2 _ (ssx fun Q3 n3=>?_)
  walk_at "D"
  refine⟨zr2 (hT.ext ⟨_,hm⟩ hx) c.fs,c.cs s1 s2 (n3 _ (ssx fun Q4 n4=>zi fun K kt kf=>?_))⟩
  walk_at "D"
  by_cases hz:lcs q.ti q.td=0
  ·have eB:ze2 q=q:=by unfold ze2;rw[if_pos hz]
   rw[eB,ht] at h
   rw[show(!decide ((lcs q.ti q.td:Int)=0))=false by simp[hz]]
   exact kf _ (zd (n4 _ (zd (h _ _ _ _ hp' hm' hx))))
  ·have eB:ze2 q=⟨q.done,q.td.take (q.td.length-lcs q.ti q.td),q.ti.take (q.ti.length-lcs q.ti q.td),q.ti.drop (q.ti.length-lcs q.ti q.td)++q.t⟩:=by unfold ze2;rw[if_neg hz]
   rw[eB,ht] at h
   rw[show(!decide ((lcs q.ti q.td:Int)=0))=true by simp[hz]]
   have e3:q.done++(run++((0:Int),tx)::rest)=(q.done++run)++((0:Int),tx)::rest:=by simp
   refine kt _ (z74 (A:=q.done++run) (by rw[hm',e3]) (by rw[hp',List.length_append]) ?_ (by lia) L2.1 L2.2 s1 s2 h3 fun m'' hm'' hx'=>n4 _ (zd (h _ _ _ _ hp' ?_ (hx.trans hx'))))
   ·unfold sma at hLA hLr;unfold tiny;exact⟨yR 3673278136126876308094365219 rfl hp',yR 379470591593214323559968943308116495891612989199642264104 rfl hLr hp' hLA⟩
   ·rw[hm''];simp
 refine zi fun K kt kf=>?_
 walk_at "D"
 by_cases hz:lcp ti td=0
 ·have eA:zM ⟨done,td,ti,tx⟩=⟨done,td,ti,tx⟩:=by unfold zM;rw[if_pos hz]
  rw[eA] at mid
  rw[show(!decide ((lcp ti td:Int)=0))=false by simp[hz]]
  exact kf _ (zd (mid _ _ _ hp hm (.refl _ _)))
 ·have eA:zM ⟨done,td,ti,tx⟩=⟨zS done (ti.take (lcp ti td)),td.drop (lcp ti td),ti.drop (lcp ti td),tx⟩:=by unfold zM;rw[if_neg hz]
  rw[eA] at mid
  rw[show(!decide ((lcp ti td:Int)=0))=true by simp[hz]]
  have hpp:p-cd-ci=(done.length:Int):=Int.le_antisymm (z88 25659805952991739034726267073076771 rfl hr hp) (z88 23388379070535562985720085704348706 rfl hr hp)
  refine kt _ (z8w c (done:=done) (rest:=run++(0,tx)::rest) hT hm hdn hpp hL L.1 L.2 h1 h2 hu fun m' x8 p' hp' hm' hx=>mid _ _ _ ?_ hm' hx)
  dsimp only
  rw[hp',hp];exact Int.le_antisymm (zf 2696359672783687099952 rfl) (zf 5276311808494914285104 rfl)
theorem zve {A run new rest:Row}:(rv (A++(run++rest))).take (zfp (rv (A++(run++rest))).length (some (A.length:Int)))++rv new++(rv (A++(run++rest))).drop (max (zfp (rv (A++(run++rest))).length (some (A.length:Int))) (zh3 (rv (A++(run++rest))).length (some ((A.length+run.length:Nat):Int))))=rv (A++(new++rest)):=by
 have e1:min A.length (A.length+(run.length+rest.length))=A.length:=Nat.min_eq_left (Nat.le_add_right ..)
 have e2:min (A.length+run.length) (A.length+(run.length+rest.length))=A.length+run.length:=Nat.min_eq_left (Nat.add_le_add_left (Nat.le_add_right ..) _)
 unfold zfp zh3
 simp only[Option.elim,zfs,z6,List.length_append]
 rw[e1,e2,Nat.max_eq_right (Nat.le_add_right ..),zb2,zb2,zb2,zb2,List.take_left' (z6 A),←List.append_assoc (rv A),List.drop_left' (by rw[List.length_append,z6,z6]),List.append_assoc]
theorem z41 {a:Addr}{A run rest new:Row}{p cd ci:Int} (had:a≠d) (hm:m d=some (.list (rv (A++(run++rest))))) (ha:m a=some (.list (rv new))) (hr:cd+ci=(run.length:Int)) (hp:p=(A.length+run.length:Nat)) (hL:sma (A++(run++rest)).length) (sz:sma new.length)
  (h: ∀m' (p':Int),p'=(A.length+new.length+1:Nat)→m' d=some (.list (rv (A++(new++rest))))→Ext d m m'→Q .next (cmS t d p' cd ci td ti x7 x8 (some (.obj a)) x10 m')):
  zs P [.aug 2 .Sub (.bin .Add (.var 3) (.var 4)),
  .assign [.slc (.var 1) (.var 2) (.bin .Add (.bin .Add (.var 2) (.var 3)) (.var 4))] (.var 9),
  .aug 2 .Add (.bin .Add (.bi .len [.var 9]) (.lit (.int 1)))] Q (cmS t d p cd ci td ti x7 x8 (some (.obj a)) x10 m):=by
 refine ssx fun Q2 n2=>?_
 walk_at "D"
 rw[show p-(cd+ci)=(A.length:Int) by rw[hr,hp];exact Int.le_antisymm (zc 66310302430768 rfl) (zc 347755278507568 rfl)]
 refine n2 _ (ssx fun Q3 n3=>?_)
 walk_at "D"
 have e:(A.length:Int)+cd+ci=((A.length+run.length:Nat):Int):=Int.le_antisymm (ztn 332117248822774835502912546 rfl hr) (ztn 2787970137899503999807135267 rfl hr)
 refine⟨d,a,some (A.length:Int),some ((A.length+run.length:Nat):Int),_,_,rfl,rfl,rfl,by rw[e];rfl,Ne.symm had,hm,ha,by rw[z6];exact hL,by rw[z6];exact sz,n3 _ ?_⟩
 walk_at "D"
 refine⟨_,.inl (by rw[upn _ _ had];exact ha),by rw[z6];exact sz,h _ _ (by rw[z6];rfl) ?_ (.upd _ _ _)⟩
 rw[ups]
 exact congrArg (fun l=>some (O.list l)) zve
theorem zs2 {x:Tx} (h:x≠[]):(!decide ((x.length:Int)=0))=true:=by cases x with | nil=>exact absurd rfl h | cons=>simp;grind
theorem z5b (c:Cm P) {a:Addr}{l:Row} (hT:zd6 P m t) (had:a≠d) (hm: ∃l,m d=some (.list l)) (ha:m a=some (.list (rv l))) (hl:l.length≤1) (h1:sma ti.length) {p cd ci:Int}
  (h: ∀m',m' d=m d→m' a=some (.list (rv (l++if ti=[] then[] else[(1,ti)])))→(∀m0,Ext d m0 m→m0 a=none→Ext d m0 m')→Q .next (cmS t d p cd ci td ti x7 x8 (some (.obj a)) x10 m')):
  wpS P (.ife (.cmp (.bi .len [.var 6]) [.NotEq] [.lit (.int 0)]) [.expr (.me (.var 9) .append [.tup [.attr (.var 0) "DIFF_INSERT",.var 6]])] []) Q (cmS t d p cd ci td ti x7 x8 (some (.obj a)) x10 m):=by
 refine zi fun K kt kf=>?_
 walk_at "D"
 refine⟨h1,?_⟩
 by_cases hz:ti=[]
 ·subst hz
  exact kf _ (zd (h _ rfl (by rw[if_pos rfl,List.append_nil];exact ha) fun _ e _=>e))
 ·rw[zs2 hz]
  refine kt _ (ssx fun Q4 n4=>?_)
  walk_at "D"
  refine⟨⟨_,ha⟩,zfq hT c.cI.1 c.cI.2 ⟨_,ha,by rw[z6];exact ntr hl (by decide),n4 _ (zd (h _ (upn _ _ (Ne.symm had)) (by rw[ups,if_neg hz,zb2];rfl) fun _ e hn=>e.newIn hn _))⟩⟩
theorem z1u (c:Cm P) {A run:Row}{rest:Row}{p cd ci:Int}{cdn cin:Nat} (hT:zd6 P m t) (hm:m d=some (.list (rv (A++(run++rest))))) (hr:cd+ci=(run.length:Int)) (hp:p=(A.length+run.length:Nat)) (hc0:0≤cd) (hc1:0≤ci) (hL:sma (A++(run++rest)).length) (h1:sma ti.length) (h2:sma td.length)
  (h: ∀m' x9 (p':Int),p'=(A.length+(ops td ti).length+1:Nat)→m' d=some (.list (rv (A++(ops td ti++rest))))→Ext d m m'→Q .next (cmS t d p' cd ci td ti x7 x8 x9 x10 m')):
  zs P [.assign [.var 9] (.list []),
  .ife (.cmp (.bi .len [.var 5]) [.NotEq] [.lit (.int 0)]) [
   .expr (.me (.var 9) .append [.tup [.attr (.var 0) "DIFF_DELETE",.var 5]])] [],
  .ife (.cmp (.bi .len [.var 6]) [.NotEq] [.lit (.int 0)]) [
   .expr (.me (.var 9) .append [.tup [.attr (.var 0) "DIFF_INSERT",.var 6]])] [],
  .aug 2 .Sub (.bin .Add (.var 3) (.var 4)),
  .assign [.slc (.var 1) (.var 2) (.bin .Add (.bin .Add (.var 2) (.var 3)) (.var 4))] (.var 9),
  .aug 2 .Add (.bin .Add (.bi .len [.var 9]) (.lit (.int 1)))] Q (cmS t d p cd ci td ti x7 x8 x9 x10 m):=by
 refine ssx fun Q1 n1=>?_
 walk_at "D"
 intro a ha
 refine n1 _ ?_
 have had:a≠d:=fun q=>by subst q;rw[hm] at ha;exact(Option.some_ne_none _ ha).elim
 have sz:sma (ops td ti).length:=zdm (k:=2) (by unfold ops;split<;>split<;>simp) (by unfold sma;exact Nat.le_add_left ..)
 have r1:(upd m a (O.list [])) d=some (.list (rv (A++(run++rest)))):=by rw[upn _ _ (Ne.symm had)];exact hm
 refine ssx fun Q2 n2=>zi fun K kt kf=>?_
 walk_at "D"
 refine⟨h2,?_⟩
 have two: ∀m2,m2 d=some (.list (rv (A++(run++rest))))→m2 a=some (.list (rv (if td=[] then[] else[(-1,td)])))→Ext d m m2→Q2 .next (cmS t d p cd ci td ti x7 x8 (some (.obj a)) x10 m2):=fun m2 g1 g2 g4=>
  n2 _ (ssx fun Q3 n3=>z5b c (hT.ext ⟨_,hm⟩ g4) had ⟨_,g1⟩ g2 (by split<;>simp) h1 fun m3 e1 e2 e3=>n3 _ (z41 (new:=ops td ti) had (e1.trans g1) e2 hr hp hL sz fun m' p' a1 a2 a3=>h m' _ p' a1 a2 ((e3 m g4 ha).trans a3)))
 by_cases hz:td=[]
 ·subst hz
  exact kf _ (zd (two _ r1 (ups _ _ _) (.new ha _)))
 ·rw[zs2 hz]
  refine kt _ (ssx fun Q4 n4=>?_)
  walk_at "D"
  refine⟨⟨[],ups _ _ _⟩,zfq (hT.ext ⟨_,hm⟩ (.new ha _)) c.cD.1 c.cD.2 ⟨[],ups _ _ _,by unfold sma;simp,n4 _ (zd (two _ ?_ ?_ ?_))⟩⟩
  ·rw[upn _ _ (Ne.symm had)];exact r1
  ·rw[ups,if_neg hz];rfl
  ·rw[zu2];exact .new ha _
end
section
variable {P:PC}{Q:Fl→St→Prop}{t d:Addr}{td ti:Tx}{x7 x8 x9 x10:Option V}{m:Mem}
theorem zps (k:Int) (r:Row):(cat k r).length≤phi r:=by
 induction r with
 | nil=>simp[cat]
 | cons p r ih=>
  simp only[zdn,zh,List.length_append]
  split
  ·exact zf 5350178409015476290088 rfl ih
  ·simp only[List.length_nil];exact zf 5350178408431360737832 rfl ih
theorem zu6 (q:Trim):(zgn q).ti.length≤q.ti.length∧(zgn q).td.length≤q.td.length:=by
 have a:(zM q).ti.length≤q.ti.length∧(zM q).td.length≤q.td.length:=by unfold zM;split<;>simp
 have b:(zgn q).ti.length≤(zM q).ti.length∧(zgn q).td.length≤(zM q).td.length:=by unfold zgn ze2;split<;>simp
 exact⟨zf 42121604987949220392 rfl a.1 b.1,zf 42121604987949220392 rfl a.2 b.2⟩
theorem z7x (c:Cm P) {done run rest:Row}{p:Int}{tx:Tx} (hT:zd6 P m t) (hm:m d=some (.list (rv (done++(run++(0,tx)::rest))))) (hdn:Dn done) (hr:Run run) (hp:p=(done.length+run.length:Nat)) (hφ:phi (done++(run++(0,tx)::rest))≤1000)
  (h: ∀m' td' ti' x7 x8 x9 (p':Int),p'=(zqq (zb5 done run tx)).length→m' d=some (.list (rv (zqq (zb5 done run tx)++rest)))→Ext d m m'→Q .next (cmS t d p' (cnt (-1) run) (cnt 1 run) td' ti' x7 x8 x9 x10 m')):
  zs P yD Q (cmS t d p (cnt (-1) run) (cnt 1 run) (cat (-1) run) (cat 1 run) x7 x8 x9 x10 m):=by
 have hc:=zth hr
 have hL:=llp (done++(run++(0,tx)::rest))
 have φ1:phi done+(phi run+(tx.length+1+phi rest))≤1000:=by rw[pha,pha,zh] at hφ;exact hφ
 have c1:=zps 1 run
 have c2:=zps (-1) run
 have s1:sma (cat 1 run).length:=by unfold sma;exact za9 10939122386951528412351508485247778046350376 rfl φ1 c1
 have s2:sma (cat (-1) run).length:=by unfold sma;exact za9 10939122386951528412351508485247778046350376 rfl φ1 c2
 have tail: ∀m' td' ti' x7 x8 (p':Int) (q:Trim),q=zb5 done run tx→td'=q.td→ti'=q.ti→p'=(q.done.length+run.length:Nat)→m' d=some (.list (rv (q.done++(run++(0,q.t)::rest))))→Ext d m m'→td'.length≤1000→ti'.length≤1000→
   zs P [.assign [.var 9] (.list []),
  .ife (.cmp (.bi .len [.var 5]) [.NotEq] [.lit (.int 0)]) [
   .expr (.me (.var 9) .append [.tup [.attr (.var 0) "DIFF_DELETE",.var 5]])] [],
  .ife (.cmp (.bi .len [.var 6]) [.NotEq] [.lit (.int 0)]) [
   .expr (.me (.var 9) .append [.tup [.attr (.var 0) "DIFF_INSERT",.var 6]])] [],
  .aug 2 .Sub (.bin .Add (.var 3) (.var 4)),
  .assign [.slc (.var 1) (.var 2) (.bin .Add (.bin .Add (.var 2) (.var 3)) (.var 4))] (.var 9),
  .aug 2 .Add (.bin .Add (.bi .len [.var 9]) (.lit (.int 1)))] Q (cmS t d p' (cnt (-1) run) (cnt 1 run) td' ti' x7 x8 x9 x10 m'):=fun m' td' ti' x7 x8 p' q hq e1 e2 hp' hm' hx z1 z2=>by
  subst e1;subst e2
  have hw:tw q≤phi done+(cat (-1) run).length+(cat 1 run).length+tx.length:=by
   rw[hq];unfold zb5
   split
   ·exact(zzw _ hdn).1
   ·exact Nat.le_refl _
  have lq:=llp q.done
  have lr:=llp rest
  have lrun:=llp run
  refine z1u c (A:=q.done) (run:=run) (rest:=(0,q.t)::rest) (cdn:=0) (cin:=0) (hT.ext ⟨_,hm⟩ hx) hm' (by exact Int.le_antisymm (zf 5278615617020566705194 rfl hc) (zf 5278624153628844884523 rfl hc)) hp' (by exact zw 983088 rfl) (by exact zw 983088 rfl) ?_ (by unfold sma;exact zw 1186022025138818233926184 rfl z2) (by unfold sma;exact zw 1186022025138818233926184 rfl z1) fun m'' x9' p'' hp'' hm'' hx'=>?_
  ·unfold tw at hw
   unfold sma
   simp only[List.length_append,List.length_cons]
   exact z8m 2415969534183581835928953690410060346463956696788879862965551810211554355340432613864182374438238256907461378184296 rfl φ1 c1 c2 hw lq lr lrun
  ·have e:zqq (zb5 done run tx)++rest=q.done++(ops q.td q.ti++(0,q.t)::rest):=by rw[←hq];unfold zqq;simp
   refine h _ _ _ _ _ _ _ ?_ (by rw[e];exact hm'') (hx.trans hx')
   rw[hp'',←hq];unfold zqq
   simp only[List.length_append,List.length_singleton]
 unfold yD
 refine ssx fun Q1 n1=>zi fun K kt kf=>?_
 walk_at "D"
 by_cases hb:cnt (-1) run≠0∧cnt 1 run≠0
 ·have eR:zb5 done run tx=zgn ⟨done,cat (-1) run,cat 1 run,tx⟩:=by unfold zb5;rw[if_pos hb]
  rw[show(!decide ((cnt (-1) run:Int)=0))=true by simp[hb.1],show(!decide ((cnt 1 run:Int)=0))=true by simp[hb.2],if_pos rfl,if_pos rfl]
  have tl:=zu6 ⟨done,cat (-1) run,cat 1 run,tx⟩
  refine kt _ (z7g c (done:=done) (run:=run) (rest:=rest) hT hm hdn (by exact Int.le_antisymm (zf 5278615617020566705194 rfl hc) (zf 5278624153628844884523 rfl hc)) hp (by unfold sma;exact zc 9949073849436249927004832399912 rfl hφ hL) s1 s2 (by unfold sma;exact zP 1304045007748055038584015782599988264 rfl φ1) (fun q hq=>by have:=zkl hq;unfold sma;exact za9 10939122386951508605348658851026336822072360 rfl φ1 this) fun m' x7 x8 p' hp' hm' hx=>
   n1 _ (tail m' _ _ x7 x8 p' _ eR.symm rfl rfl hp' hm' hx (by dsimp only at tl;exact zk8 11362285634525111567536380892225494673024619560 rfl φ1 c2 tl.2) (by dsimp only at tl;exact zk8 11362285634525111567536380892225494673024619560 rfl φ1 c1 tl.1)))
 ·have eR:zb5 done run tx=⟨done,cat (-1) run,cat 1 run,tx⟩:=by unfold zb5;rw[if_neg hb]
  have go:=n1 _ (tail m _ _ x7 x8 p _ eR.symm rfl rfl hp hm (.refl _ _) (by dsimp only;exact za9 1354488700030995791121672987197286913064 rfl φ1 c2) (by dsimp only;exact za9 1354488700030995791121672987197286913064 rfl φ1 c1))
  by_cases h0:cnt (-1) run=0
  ·rw[show(!decide ((cnt (-1) run:Int)=0))=false by simp[h0],if_neg (by decide)]
   exact kf _ (zd go)
  ·have h0':cnt 1 run=0:=Classical.byContradiction fun q=>hb ⟨h0,q⟩
   rw[show(!decide ((cnt (-1) run:Int)=0))=true by simp[h0],if_pos rfl,show(!decide ((cnt 1 run:Int)=0))=false by simp[h0'],if_neg (by decide)]
   exact kf _ (zd go)
theorem z8k {dn rest:Row}{p:Int}{u tx:Tx}{cd ci:Int} (hm:m d=some (.list (rv (dn++(0,u)::(0,tx)::rest)))) (hp:p=(dn.length+1:Nat)) (hφ:phi (dn++(0,u)::(0,tx)::rest)≤1000)
  (h: ∀m',m' d=some (.list (rv (dn++(0,u++tx)::rest)))→Ext d m m'→Q .next (cmS t d p cd ci td ti x7 x8 x9 x10 m')):
  zs P zE Q (cmS t d p cd ci td ti x7 x8 x9 x10 m):=by
 have hL:=llp (dn++(0,u)::(0,tx)::rest)
 rw[pha,zh,zh] at hφ
 have e1:p-1=(dn.length:Int):=Int.le_antisymm (zbm 69463910983491060258 rfl hp) (zbm 295544753011248115235 rfl hp)
 have g1:zH (dn++((0:Int),u)::(0,tx)::rest) (dn.length:Int)=some ((0:Int),u):=zaz _ _ _ rfl
 have e2:dn++((0:Int),u)::(0,tx)::rest=(dn++[(0,u)])++(0,tx)::rest:=by simp
 have g2:zH (dn++((0:Int),u)::(0,tx)::rest) p=some ((0:Int),tx):=by rw[e2];exact zaz _ _ _ (by simp;exact Int.le_antisymm (zbm 295697382817809831458 rfl e1) (zbm 39203626952863260195 rfl e1))
 simp only[List.length_append,List.length_cons] at hL
 rw[pha,zh,zh] at hL
 have t1:tiny (dn.length:Int):=tiny_n (zk8 13541977597450406370422149074579151689416707457247830364237117170652200 rfl hφ hL)
 have t2:tiny p:=by exact⟨zbm 3673278136126876308090170915 rfl hp,z3v 7516189425032803737762868538778442895451787361193018096623007163642829630066902106658 rfl hp hφ hL⟩
 dsimp only at hφ hL
 unfold zE
 refine ssx fun Q1 n1=>?_
 walk_at "D"
 rw[e1]
 refine zj hm t1 g1 (zah (zj hm t1 g1 (zN (zj hm t2 g2 (zN ?_)))))
 walk_at "D"
 refine⟨by unfold sma;exact zP 1335342087775552034481503486190237520936 rfl hφ,by unfold sma;exact zP 1335342087934008359510032161377325421608 rfl hφ,d,_,_,dn.length,rfl,rfl,t1,hm,zpc _ _ _ rfl,n1 _ (ssx fun Q2 n2=>?_)⟩
 walk_at "D"
 have hm2:upd m d (O.list ((rv (dn++(0,u)::(0,tx)::rest)).set dn.length (V.tup [V.int 0,V.str (u++tx)]))) d=some (.list (rv ((dn++[(0,u++tx)])++(0,tx)::rest))):=by
  rw[ups]
  refine congrArg (fun l=>some (O.list l)) ((zkm dn ((0,tx)::rest) (0,u) (0,u++tx)).trans ?_)
  simp
 refine⟨d,p,_,_,rfl,rfl,t2,hm2,zpc _ _ _ (by simp;exact Int.le_antisymm (zbm 295697382817809831458 rfl e1) (zbm 39203626952863260195 rfl e1)),?_,n2 _ (zd (h _ ?_ ?_))⟩
 ·rw[z6];unfold sma;simp;exact zk8 14540587720651898769233409601520218458399988015033348640950438053819416587539496 rfl hφ hL
 ·rw[ups]
  refine congrArg (fun l=>some (O.list l)) ?_
  have:=zle (dn++[(0,u++tx)]) rest (0,tx)
  rw[this];simp
 ·exact(Ext.upd _ _ _).trans (.upd _ _ _)
noncomputable def zse:List Sm:=[
   .ife (.band [.cmp (.var 2) [.NotEq] [.lit (.int 0)],.cmp (.idx (.idx (.var 1) (.bin .Sub (.var 2) (.lit (.int 1)))) (.lit (.int 0))) [.Eq] [.attr (.var 0) "DIFF_EQUAL"]]) zE [
    .aug 2 .Add (.lit (.int 1))]]
theorem z34 {cd ci:Int} (h:Q .next (cmS t d 1 cd ci td ti x7 x8 x9 x10 m)):zs P zse Q (cmS t d 0 cd ci td ti x7 x8 x9 x10 m):=by
 unfold zse
 refine ssn (zi fun K kt kf=>?_)
 walk_at "D"
 rw[show(!decide ((0:Int)=0))=false from rfl,if_neg Bool.false_ne_true]
 exact kf _ h
theorem z1s (c:Cm P) {dn rest:Row}{p:Int}{u tx:Tx}{cd ci:Int} (hT:zd6 P m t) (hm:m d=some (.list (rv (dn++(0,u)::(0,tx)::rest)))) (hp:p=(dn.length+1:Nat)) (hφ:phi (dn++(0,u)::(0,tx)::rest)≤1000)
  (h: ∀m',m' d=some (.list (rv (dn++(0,u++tx)::rest)))→Ext d m m'→Q .next (cmS t d p cd ci td ti x7 x8 x9 x10 m')):zs P zse Q (cmS t d p cd ci td ti x7 x8 x9 x10 m):=by
 have hL:=llp (dn++((0:Int),u)::(0,tx)::rest)
 rw[List.length_append] at hL
 unfold zse
 refine ssn (zi fun K kt kf=>?_)
 walk_at "D"
 rw[show(!decide (p=0))=true by simp;lia,if_pos rfl]
 refine zj hm (by exact⟨zbm 20310841682573504905753323941411 rfl hp,za6 5790261712543016698764660168978302715149654020260386 rfl hp hφ hL⟩) (zaz _ _ _ (by exact Int.le_antisymm (zbm 69463910983491060258 rfl hp) (zbm 295544753011248115235 rfl hp))) (zah (zfq hT c.cE.1 c.cE.2 ?_))
 walk_at "D"
 exact yV rfl (kt _ (z8k hm hp hφ h))
theorem z49 (c:Cm P) {done rest:Row}{p:Int}{e:zG}{tx:Tx}{cd ci:Int} (hT:zd6 P m t) (hm:m d=some (.list (rv (done++e::(0,tx)::rest)))) (hp:p=(done.length+1:Nat)) (hl:done.length≤1000) (he:e.1≠0)
  (h:Q .next (cmS t d (p+1) cd ci td ti x7 x8 x9 x10 m)):zs P zse Q (cmS t d p cd ci td ti x7 x8 x9 x10 m):=by
 unfold zse
 refine ssn (zi fun K kt kf=>?_)
 walk_at "D"
 rw[show(!decide (p=0))=true by simp;lia,if_pos rfl]
 refine zj hm (by exact⟨zbm 20310841682573504905753323941411 rfl hp,zbm 674075180727874010191966771033397259600418 rfl hp hl⟩) (zaz _ _ _ (by exact Int.le_antisymm (zbm 69463910983491060258 rfl hp) (zbm 295544753011248115235 rfl hp))) (zah (zfq hT c.cE.1 c.cE.2 ?_))
 walk_at "D"
 exact zb6 he (kf _ h)
theorem z7l (c:Cm P) {done run rest:Row}{p:Int}{tx:Tx} (hT:zd6 P m t) (hm:m d=some (.list (rv (done++(run++(0,tx)::rest))))) (hdn:Dn done) (hr:Run run) (hp:p=(done.length+run.length:Nat)) (hφ:phi (done++(run++(0,tx)::rest))≤1000)
  (h: ∀m' x7 x8 x9 (p':Int),p'=(zr done run tx).length→m' d=some (.list (rv (zr done run tx++rest)))→Ext d m m'→Q .next (cmS t d p' 0 0 [] [] x7 x8 x9 x10 m')):
  zs P yH Q (cmS t d p (cnt (-1) run) (cnt 1 run) (cat (-1) run) (cat 1 run) x7 x8 x9 x10 m):=by
 have hc:=zth hr
 have tail: ∀m' td' ti' x7 x8 x9 (p' cd ci:Int),p'=(zr done run tx).length→m' d=some (.list (rv (zr done run tx++rest)))→Ext d m m'→
   zs P [.assign [.var 4] (.lit (.int 0)),.assign [.var 3] (.lit (.int 0)),.assign [.var 5] (.lit (.str [])),.assign [.var 6] (.lit (.str []))] Q (cmS t d p' cd ci td' ti' x7 x8 x9 x10 m'):=fun m' td' ti' x7 x8 x9 p' cd ci e hm' hx=>by
  walk_at "D"
  exact h _ _ _ _ _ e hm' hx
 unfold yH
 refine ssx fun Q1 n1=>zi fun K kt kf=>?_
 walk_at "D"
 by_cases hb:1<run.length
 ·rw[show decide ((1:Int)<(cnt (-1) run:Int)+(cnt 1 run:Int))=true by simp;exact zf 5535038829586008233390768683 rfl hc hb]
  have eS:zr done run tx=zqq (zb5 done run tx):=by unfold zr;rw[if_pos hb]
  exact kt _ (z7x c hT hm hdn hr hp hφ fun m' td' ti' x7 x8 x9 p' hp' hm' hx=>n1 _ (tail _ _ _ _ _ _ _ _ _ (by rw[eS];exact hp') (by rw[eS];exact hm') hx))
 ·rw[show decide ((1:Int)<(cnt (-1) run:Int)+(cnt 1 run:Int))=false by simp;exact zf 2499760867977046720470586410 rfl hc hb]
  have hL:=llp (done++(run++(0,tx)::rest))
  rw[List.length_append] at hL
  refine kf _ ?_
  by_cases hn:run=[]
  ·subst hn
   rcases hdn with rfl | ⟨dn,u,rfl⟩
   ·obtain rfl:p=0:=hp
    exact z34 (n1 _ (tail _ _ _ _ _ _ _ _ _ rfl hm (.refl _ _)))
   ·have eS:zr (dn++[((0:Int),u)]) [] tx=dn++[(0,u++tx)]:=by
     unfold zr;rw[if_neg (by decide),if_pos ⟨rfl,List.append_ne_nil_of_right_ne_nil _ (List.cons_ne_nil _ _)⟩,zt]
    have ea: ∀{q:zG} {l:Row},dn++[q]++l=dn++q::l:=List.append_assoc ..
    rw[List.nil_append,ea] at hm hφ
    have hp':p=(dn.length+1:Nat):=by rw[hp,List.length_append];rfl
    exact z1s c hT hm hp' hφ fun m' hm'' hx=>n1 _ (tail _ _ _ _ _ _ _ _ _ (by rw[eS,hp',List.length_append];rfl) (by rw[eS,ea];exact hm'') hx)
  ·obtain⟨e,rfl⟩: ∃e,run=[e]:=by
    cases run with
    | nil=>exact absurd rfl hn
    | cons e r=>cases r with
     | nil=>exact⟨e,rfl⟩
     | cons=>exact absurd (Nat.succ_lt_succ (Nat.succ_pos _)) hb
   have eS:zr done [e] tx=done++[e]++[(0,tx)]:=rfl
   have he:e.1≠0:=by rcases hr e (List.mem_singleton.mpr rfl) with q | q<;>rw[q]<;>decide
   exact z49 c hT hm hp (by exact zf 1261462276604245647608093082152 rfl hφ hL) he (n1 _ (tail _ _ _ _ _ _ _ _ _ (by rw[eS,hp,List.length_append,List.length_append];rfl) (by rw[eS,hm,List.append_assoc,List.append_assoc];rfl) (.refl _ _)))
end
theorem zn9 {d:Addr}{L:Row}{m:Mem}{K:V→Mem→Prop} (hm:m d=some (.list (rv L))) (hs:sma L.length) (h:K (.int L.length) m):zr3 m .len [.obj d] K:=
 ⟨_,.inl hm,by rw[z6];exact hs,by rw[z6];exact h⟩
section
variable {P:PC}{Q:Fl→St→Prop}{t d:Addr}{x7 x8 x9 x10:Option V}{m:Mem}
noncomputable abbrev cmR (t d:Addr) (done run:Row) (x7 x8 x9 x10:Option V) (m:Mem):St:=
 cmS t d (done.length+run.length:Nat) (cnt (-1) run) (cnt 1 run) (cat (-1) run) (cat 1 run) x7 x8 x9 x10 m
theorem z6n (c:Cm P) {done run rest:Row}{q:zG} (hT:zd6 P m t) (hm:m d=some (.list (rv (done++(run++q::rest))))) (hdn:Dn done) (hr:Run run) (hq:zz8 q.1) (hφ:phi (done++(run++q::rest))≤1000)
  (h0:q.1=0→∀m' x7 x8 x9,m' d=some (.list (rv (zr done run q.2++rest)))→Ext d m m'→Q .next (cmR t d (zr done run q.2) [] x7 x8 x9 x10 m'))
  (h1:q.1≠0→Q .next (cmR t d done (run++[q]) x7 x8 x9 x10 m)):
  zs P z8 Q (cmR t d done run x7 x8 x9 x10 m):=by
 have e1:done++(run++q::rest)=(done++run)++q::rest:=by simp
 have hg:zH (done++(run++q::rest)) ((done.length+run.length:Nat):Int)=some q:=by rw[e1];exact zaz _ _ _ (by simp)
 have hL:=llp (done++(run++q::rest))
 have φ1:phi done+(phi run+(q.2.length+1+phi rest))≤1000:=by rw[pha,pha,zh] at hφ;exact hφ
 have c1:=zps 1 run
 have c2:=zps (-1) run
 simp only[List.length_append,List.length_cons] at hL
 have ht:tiny ((done.length+run.length:Nat):Int):=tiny_n (zP 10939122384349353053716860182873696762855976 rfl hφ hL)
 unfold z8
 refine ssx fun Q1 n1=>zi fun K kt kf=>?_
 walk_at "D"
 refine zj hm ht hg (zah (zfq hT c.cI.1 c.cI.2 ?_))
 walk_at "D"
 have cast: ∀n:Nat,((n:Int)+1)=((n+1:Nat):Int):=fun n=>rfl
 have run':q.1≠0→∀(p cd ci:Int) (td ti:Tx),p=(done.length+(run++[q]).length:Nat)→cd=cnt (-1) (run++[q])→ci=cnt 1 (run++[q])→td=cat (-1) (run++[q])→ti=cat 1 (run++[q])→Q .next (cmS t d p cd ci td ti x7 x8 x9 x10 m):=by
  rintro hz p cd ci td ti rfl rfl rfl rfl rfl
  exact h1 hz
 rcases hq with hq | hq | hq
 ·rw[show decide (q.1=1)=false by rw[hq];rfl]
  refine kf _ (ssx fun Q2 n2=>zi fun K2 kt2 kf2=>?_)
  walk_at "D"
  refine zj hm ht hg (zah (zfq hT c.cD.1 c.cD.2 ?_))
  walk_at "D"
  rw[show decide (q.1=-1)=true by rw[hq];rfl]
  refine kt2 _ (z8b hm ht hg (by unfold sma;exact za9 10939122386951528412351508485247778046350376 rfl φ1 c2) (by unfold sma;exact zP 1304045007748055038584015782599988264 rfl φ1) (n2 _ (zd (n1 _ (zd (run' (by rw[hq];decide) _ _ _ _ _ ?_ ?_ ?_ ?_ ?_))))))
  ·rw[List.length_append];rfl
  ·rw[zcs,zi2,if_pos hq];rfl
  ·rw[zcs,zi2,if_neg (by rw[hq];decide)];rfl
  ·rw[zc7,zdi,if_pos hq]
  ·rw[zc7,zdi,if_neg (by rw[hq];decide),List.append_nil]
 ·rw[show decide (q.1=1)=false by rw[hq];rfl]
  refine kf _ (ssx fun Q2 n2=>zi fun K2 kt2 kf2=>?_)
  walk_at "D"
  refine zj hm ht hg (zah (zfq hT c.cD.1 c.cD.2 ?_))
  walk_at "D"
  rw[show decide (q.1=-1)=false by rw[hq];rfl]
  refine kf2 _ (ssx fun Q3 n3=>zi fun K3 kt3 kf3=>?_)
  walk_at "D"
  refine zj hm ht hg (zah (zfq hT c.cE.1 c.cE.2 ?_))
  walk_at "D"
  rw[show decide (q.1=0)=true by rw[hq];rfl]
  have eq:q=(0,q.2):=by rw[←hq]
  have hm':m d=some (.list (rv (done++(run++(0,q.2)::rest)))):=by rw[←eq];exact hm
  refine kt3 _ (z7l c hT hm' hdn hr rfl (by rw[←eq];exact hφ) fun m' x7 x8 x9 p' hp' hm'' hx=>n3 _ (zd (n2 _ (zd (n1 _ (zd ?_))))))
  subst hp'
  exact h0 hq m' x7 x8 x9 hm'' hx
 ·rw[show decide (q.1=1)=true by rw[hq];rfl]
  refine kt _ (z7j hm ht hg (by unfold sma;exact za9 10939122386951528412351508485247778046350376 rfl φ1 c1) (by unfold sma;exact zP 1304045007748055038584015782599988264 rfl φ1) (n1 _ (zd (run' (by rw[hq];decide) _ _ _ _ _ ?_ ?_ ?_ ?_ ?_))))
  ·rw[List.length_append];rfl
  ·rw[zcs,zi2,if_neg (by rw[hq];decide)];rfl
  ·rw[zcs,zi2,if_pos hq];rfl
  ·rw[zc7,zdi,if_neg (by rw[hq];decide),List.append_nil]
  ·rw[zc7,zdi,if_pos hq]
theorem znp {done run:Row}{k:Int}{tx:Tx}{r:Row} (h:k=0):zg done run ((k,tx)::r)=zg (zr done run tx) [] r:=by rw[zg,if_pos h]
theorem zl9 {done run:Row}{q:zG}{r:Row} (h:q.1≠0):zg done run (q::r)=zg done (run++[q]) r:=by
 obtain⟨k,tx⟩:=q
 rw[zg,if_neg h]
inductive C1 (t d:Addr) (todo:Row) (x10:Option V) (m:Mem) (n:Nat) (σ:St):Prop
 | mk (done run todo':Row) (m':Mem) (x7 x8 x9:Option V):σ=cmR t d done run x7 x8 x9 x10 m'→n=todo'.length→Dn done→Run run→(∀q∈todo',zz8 q.1)→m' d=some (.list (rv (done++(run++todo'))))→Ext d m m'→
  phi (done++(run++todo'))≤phi todo→zg done run todo'=zg [] [] todo→C1 t d todo x10 m n σ
theorem zxv (c:Cm P) {todo:Row} (hT:zd6 P m t) (hm:m d=some (.list (rv todo))) (hk: ∀q∈todo,zz8 q.1) (hφ:phi todo≤1000)
  (h: ∀m' p cd ci td ti x7 x8 x9,m' d=some (.list (rv (zg [] [] todo)))→phi (zg [] [] todo)≤phi todo→Ext d m m'→Q .next (cmS t d p cd ci td ti x7 x8 x9 x10 m')):
  wpS P (.whl (.cmp (.var 2) [.Lt] [.bi .len [.var 1]]) z8) Q (cmR t d [] [] x7 x8 x9 x10 m):=by
 refine⟨C1 t d todo x10 m,⟨_,[],[],todo,m,x7,x8,x9,rfl,rfl,.inl rfl,fun _ h=>by simp at h,hk,hm,.refl _ _,Nat.le_refl _,rfl⟩,?_⟩
 rintro n σ ⟨done,run,todo',m',x7,x8,x9,rfl,rfl,hdn,hr,hk',hm',hx,hφ',hM⟩
 have hL:=llp (done++(run++todo'))
 walk_at "D"
 refine zn9 hm' (by unfold sma;exact zf 83458880495875394238240826482174722600 rfl hφ hφ' hL) ?_
 walk_at "D"
 simp only[List.length_append] at hL ⊢
 cases todo' with
 | nil=>
  refine zb6 (by simp) (h _ _ _ _ _ _ _ _ _ ?_ ?_ hx)
  ·rw[←hM,hm',List.append_nil];rfl
  ·rw[←hM];simpa [zg] using hφ'
 | cons q rest=>
  refine yV (by simp;exact zc 284198049947185 rfl) ?_
  have e:phi (done++(run++q::rest))=phi done+(phi run+(q.2.length+1+phi rest)):=by rw[pha,pha,zh]
  refine z6n c (hT.ext ⟨_,hm⟩ hx) hm' hdn hr (hk' q List.mem_cons_self) (by exact ntr ‹_› ‹_›) (fun hq m'' x7 x8 x9 g1 g2=>?_) (fun hq=>?_)
  ·refine⟨rest.length,by simp,_,[],rest,m'',x7,x8,x9,rfl,rfl,.inr (za0 hdn _),fun _ h=>by simp at h,fun q hq=>hk' q (List.mem_cons_of_mem _ hq),g1,hx.trans g2,?_,?_⟩
   ·have:=zgv (run:=run) hdn q.2
    rw[List.nil_append,pha];exact zlw 436033486302948915453921162030505708590116888969768 rfl hφ' e this
   ·rw[←hM]
    obtain⟨k,tx⟩:=q
    exact(znp hq).symm
  ·refine⟨rest.length,by simp,done,run++[q],rest,m',x7,x8,x9,rfl,rfl,hdn,?_,fun q hq=>hk' q (List.mem_cons_of_mem _ hq),?_,hx,?_,?_⟩
   ·intro p hp
    rcases List.mem_append.mp hp with hp | hp
    ·exact hr p hp
    ·rw[List.mem_singleton] at hp;subst hp
     rcases hk' p List.mem_cons_self with z | z | z
     ·exact .inl z
     ·exact absurd z hq
     ·exact .inr z
   ·rw[hm'];simp
   ·simpa using hφ'
   ·rw[←hM];exact(zl9 hq).symm
end
section
variable {P:PC}{Q:Fl→St→Prop}{t d:Addr}{td ti:Tx}{cd ci:Int}{x7 x8 x9 x10:Option V}{m:Mem}
structure At3 (L:Row) (p:Int) (A:Row) (a b c:zG) (C:Row):Prop where
 e:L=A++a::b::c::C
 hp:p=(A.length+1:Nat)
theorem At3.g1 {L:Row}{p:Int}{A:Row}{a b c:zG}{C:Row} (h:At3 L p A a b c C):zH L (p-1)=some a:=by
 rw[h.e];exact zaz _ _ _ (by rw[h.hp];exact Int.le_antisymm (zw 8280965740080 rfl) (zw 35459616480816 rfl))
theorem At3.g2 {L:Row}{p:Int}{A:Row}{a b c:zG}{C:Row} (h:At3 L p A a b c C):zH L p=some b:=by
 rw[h.e,show A++a::b::c::C=(A++[a])++b::c::C by simp];exact zaz _ _ _ (by rw[h.hp];simp)
theorem At3.g3 {L:Row}{p:Int}{A:Row}{a b c:zG}{C:Row} (h:At3 L p A a b c C):zH L (p+1)=some c:=by
 rw[h.e,show A++a::b::c::C=(A++[a,b])++c::C by simp];exact zaz _ _ _ (by rw[h.hp];simp;rfl)
theorem At3.i1 {L:Row}{p:Int}{A:Row}{a b c:zG}{C:Row} (h:At3 L p A a b c C):zpz (rv L).length (p-1)=some A.length:=by
 rw[h.e];exact zpc _ _ _ (by rw[h.hp];exact Int.le_antisymm (zw 8280965740080 rfl) (zw 35459616480816 rfl))
theorem At3.i2 {L:Row}{p:Int}{A:Row}{a b c:zG}{C:Row} (h:At3 L p A a b c C):zpz (rv L).length p=some (A++[a]).length:=by
 rw[h.e,show A++a::b::c::C=(A++[a])++b::c::C by simp];exact zpc _ _ _ (by rw[h.hp];simp)
theorem At3.i3 {L:Row}{p:Int}{A:Row}{a b c:zG}{C:Row} (h:At3 L p A a b c C):zpz (rv L).length (p+1)=some (A++[a,b]).length:=by
 rw[h.e,show A++a::b::c::C=(A++[a,b])++c::C by simp];exact zpc _ _ _ (by rw[h.hp];simp;rfl)
theorem At3.s1 {L:Row}{p:Int}{A:Row}{a b c:zG}{C:Row} (h:At3 L p A a b c C) (a':zG):(rv L).set A.length (pv a')=rv (A++a'::b::c::C):=by
 rw[h.e];exact zkm _ _ _ _
theorem At3.s2 {L:Row}{p:Int}{A:Row}{a b c:zG}{C:Row} (h:At3 L p A a b c C) (b':zG):(rv L).set (A++[a]).length (pv b')=rv (A++a::b'::c::C):=by
 rw[h.e,show A++a::b::c::C=(A++[a])++b::c::C by simp,zkm];simp
theorem At3.s3 {L:Row}{p:Int}{A:Row}{a b c:zG}{C:Row} (h:At3 L p A a b c C) (c':zG):(rv L).set (A++[a,b]).length (pv c')=rv (A++a::b::c'::C):=by
 rw[h.e,show A++a::b::c::C=(A++[a,b])++c::C by simp,zkm];simp
theorem At3.d1 {L:Row}{p:Int}{A:Row}{a b c:zG}{C:Row} (h:At3 L p A a b c C):(rv L).eraseIdx A.length=rv (A++b::c::C):=by
 rw[h.e,zle]
theorem At3.d3 {L:Row}{p:Int}{A:Row}{a b c:zG}{C:Row} (h:At3 L p A a b c C):(rv L).eraseIdx (A++[a,b]).length=rv (A++a::b::C):=by
 rw[h.e,show A++a::b::c::C=(A++[a,b])++c::C by simp,zle];simp
theorem At3.tin {L:Row}{p:Int}{A:Row}{a b c:zG}{C:Row} (h:At3 L p A a b c C) (hs:L.length≤1000):tiny (p-1)∧tiny p∧tiny (p+1):=by
 have e:=h.hp
 have l:A.length≤1000:=ntr (by rw[h.e,List.length_append];exact Nat.le_add_right ..) hs
 generalize A.length=n at *
 clear hs h
 subst e
 have t: ∀k:Nat,k≤2000→tiny (k:Int):=fun k hk=>⟨Int.lt_of_lt_of_le (by decide) (Int.natCast_nonneg k),Int.lt_of_le_of_lt (Int.ofNat_le.mpr hk) (by decide)⟩
 exact⟨by rw[show((n+1:Nat):Int)-1=(n:Int) by exact Int.le_antisymm (zw 8280965740080 rfl) (zw 35459616480816 rfl)];exact t _ (by exact zw 293562657631123800616 rfl l),t _ (by exact zw 300608285718209208779304 rfl l),t (n+2) (by exact zw 300608429833397284635176 rfl l)⟩
theorem z6x {L A C:Row}{p:Int}{a b c:zG} (h3:At3 L p A a b c C) (hm:m d=some (.list (rv L))) (hs:L.length≤1000) (ha:a.2.length≤1000) (hb:b.2.length≤1000) (hc:c.2.length≤1000) (he:a.2.length≤b.2.length)
  (h: ∀m',m' d=some (.list (rv (A++(b.1,a.2++b.2.take (b.2.length-a.2.length))::(c.1,a.2++c.2)::C)))→Ext d m m'→Q .next (cmS t d p cd ci td ti x7 x8 x9 (some (.bool true)) m')):
  zs P zX Q (cmS t d p cd ci td ti x7 x8 x9 x10 m):=by
 obtain⟨t1,t2,t3⟩:=h3.tin hs
 have sm: ∀{n:Nat},n≤2000→sma n:=fun h=>by unfold sma;exact ntr ‹_› (by decide)
 have tail: ∀m' b' c',At3 (A++a::b'::c'::C) p A a b' c' C→m' d=some (.list (rv (A++a::b'::c'::C)))→Ext d m m'→b'=(b.1,a.2++b.2.take (b.2.length-a.2.length))→c'=(c.1,a.2++c.2)→
   zs P [.del (.var 1) (.bin .Sub (.var 2) (.lit (.int 1))),.assign [.var 10] (.lit (.bool true))] Q (cmS t d p cd ci td ti x7 x8 x9 x10 m'):=fun m' b' c' g hm' hx e1 e2=>by
  walk_at "D"
  refine⟨d,_,_,A.length,rfl,rfl,t1,hm',g.i1,?_,h _ ?_ (hx.trans (.upd _ _ _))⟩
  ·rw[z6];rw[h3.e] at hs;simp at hs;exact sm (by simp;exact ntr ‹_› (by decide))
  ·rw[ups,g.d1,e1,e2]
 unfold zX
 refine ssx fun Q1 n1=>zi fun K kt kf=>?_
 walk_at "D"
 refine zj hm t1 h3.g1 (zN ?_)
 walk_at "D"
 by_cases hz:a.2=[]
 ·rw[show(!decide (a.2=[]))=false by simp[hz]]
  refine kf _ (zd (n1 _ (tail m b c ?_ ?_ (.refl _ _) ?_ ?_)))
  ·exact⟨rfl,h3.hp⟩
  ·rw[hm,h3.e]
  ·rw[hz];simp
  ·rw[hz];rfl
 ·rw[show(!decide (a.2=[]))=true by simp[hz]]
  refine kt _ ?_
  have h0:0<a.2.length:=List.length_pos_iff.mpr hz
  unfold zas
  refine ssx fun Q2 n2=>?_
  walk_at "D"
  refine zj hm t2 h3.g2 (zah (zj hm t1 h3.g1 (zN (zj hm t2 h3.g2 (zN (zj hm t1 h3.g1 (zN ?_)))))))
  walk_at "D"
  rw[zev h0 he]
  have g1:At3 (A++a::(b.1,a.2++b.2.take (b.2.length-a.2.length))::c::C) p A a (b.1,a.2++b.2.take (b.2.length-a.2.length)) c C:=⟨rfl,h3.hp⟩
  refine⟨sm (by exact zw 293562657631123800616 rfl ha),sm (by grind),sm (by grind),sm (by simp;exact zc 87351102319657993896488 rfl hb),d,_,_,_,rfl,rfl,t2,hm,h3.i2,n2 _ (ssx fun Q3 n3=>?_)⟩
  have hm1:upd m d (O.list ((rv L).set (A++[a]).length (V.tup [V.int b.1,V.str (a.2++b.2.take (b.2.length-a.2.length))]))) d=some (.list (rv (A++a::(b.1,a.2++b.2.take (b.2.length-a.2.length))::c::C))):=by
   rw[ups];exact congrArg (fun l=>some (O.list l)) (h3.s2 (b.1,a.2++b.2.take (b.2.length-a.2.length)))
  walk_at "D"
  refine zj hm1 t3 g1.g3 (zah (zj hm1 t1 g1.g1 (zN (zj hm1 t3 g1.g3 (zN ?_)))))
  walk_at "D"
  refine⟨sm (by grind),sm (by grind),d,_,_,_,rfl,rfl,t3,hm1,g1.i3,n3 _ (zd (n1 _ (tail _ _ _ ⟨rfl,h3.hp⟩ ?_ ((Ext.upd _ _ _).trans (.upd _ _ _)) rfl rfl)))⟩
  rw[ups];exact congrArg (fun l=>some (O.list l)) (g1.s3 (c.1,a.2++c.2))
theorem z61 {L A C:Row}{p:Int}{a b c:zG} (h3:At3 L p A a b c C) (hm:m d=some (.list (rv L))) (hs:L.length≤1000) (ha:a.2.length≤1000) (hb:b.2.length≤1000) (hc:c.2.length≤1000) (he:c.2.length≤b.2.length)
  (h: ∀m',m' d=some (.list (rv (A++(a.1,a.2++c.2)::(b.1,b.2.drop c.2.length++c.2)::C)))→Ext d m m'→Q .next (cmS t d p cd ci td ti x7 x8 x9 (some (.bool true)) m')):
  zs P zW Q (cmS t d p cd ci td ti x7 x8 x9 x10 m):=by
 obtain⟨t1,t2,t3⟩:=h3.tin hs
 have sm: ∀{n:Nat},n≤2000→sma n:=fun h=>by unfold sma;exact ntr ‹_› (by decide)
 unfold zW
 refine ssx fun Q2 n2=>?_
 walk_at "D"
 refine zj hm t1 h3.g1 (zah (zj hm t1 h3.g1 (zN (zj hm t3 h3.g3 (zN ?_)))))
 walk_at "D"
 have g1:At3 (A++(a.1,a.2++c.2)::b::c::C) p A (a.1,a.2++c.2) b c C:=⟨rfl,h3.hp⟩
 refine⟨sm (by exact ntr ‹_› (by decide)),sm (by exact zw 293562657631123800616 rfl hc),d,_,_,_,rfl,rfl,t1,hm,h3.i1,n2 _ (ssx fun Q3 n3=>?_)⟩
 have hm1:upd m d (O.list ((rv L).set A.length (V.tup [V.int a.1,V.str (a.2++c.2)]))) d=some (.list (rv (A++(a.1,a.2++c.2)::b::c::C))):=by
  rw[ups];exact congrArg (fun l=>some (O.list l)) (h3.s1 (a.1,a.2++c.2))
 walk_at "D"
 refine zj hm1 t2 g1.g2 (zah (zj hm1 t2 g1.g2 (zN (zj hm1 t3 g1.g3 (zN ?_)))))
 walk_at "D"
 refine⟨sm (by grind),sm (by grind),zj hm1 t3 g1.g3 (zN ?_)⟩
 walk_at "D"
 rw[zJ b.2 he]
 have g2:At3 (A++(a.1,a.2++c.2)::(b.1,b.2.drop c.2.length++c.2)::c::C) p A (a.1,a.2++c.2) (b.1,b.2.drop c.2.length++c.2) c C:=⟨rfl,h3.hp⟩
 refine⟨sm (by simp;exact zc 87351102319657993896488 rfl hb),sm (by grind),d,_,_,_,rfl,rfl,t2,hm1,g1.i2,n3 _ (ssx fun Q4 n4=>?_)⟩
 have hm2:upd (upd m d (O.list ((rv L).set A.length (V.tup [V.int a.1,V.str (a.2++c.2)])))) d (O.list ((rv (A++(a.1,a.2++c.2)::b::c::C)).set (A++[(a.1,a.2++c.2)]).length (V.tup [V.int b.1,V.str (b.2.drop c.2.length++c.2)]))) d=
   some (.list (rv (A++(a.1,a.2++c.2)::(b.1,b.2.drop c.2.length++c.2)::c::C))):=by
  rw[ups];exact congrArg (fun l=>some (O.list l)) (g1.s2 (b.1,b.2.drop c.2.length++c.2))
 walk_at "D"
 refine⟨d,_,_,_,rfl,rfl,t3,hm2,g2.i3,?_,n4 _ ?_⟩
 ·rw[z6];rw[h3.e] at hs;simp at hs;exact sm (by simp;exact ntr ‹_› (by decide))
 ·walk_at "D"
  refine h _ ?_ (((Ext.upd _ _ _).trans (.upd _ _ _)).trans (.upd _ _ _))
  rw[ups,g2.d3]
theorem z45 (c:Cm P) {L A C:Row}{p:Int}{a b e:zG}{ch:Bool} (hT:zd6 P m t) (h3:At3 L p A a b e C) (hm:m d=some (.list (rv L))) (hs:L.length≤1000) (ha:a.2.length≤1000) (hb:b.2.length≤1000) (hc:e.2.length≤1000)
  (hl:a.1=0→e.1=0→a.2.length≤b.2.length∧b.2.drop (b.2.length-a.2.length)=a.2→∀m',m' d=some (.list (rv (A++(b.1,a.2++b.2.take (b.2.length-a.2.length))::(e.1,a.2++e.2)::C)))→Ext d m m'→Q .next (cmS t d (p+1) cd ci td ti x7 x8 x9 (some (.bool true)) m'))
  (hr:a.1=0→e.1=0→¬(a.2.length≤b.2.length∧b.2.drop (b.2.length-a.2.length)=a.2)→b.2.take e.2.length=e.2→∀m',m' d=some (.list (rv (A++(a.1,a.2++e.2)::(b.1,b.2.drop e.2.length++e.2)::C)))→Ext d m m'→Q .next (cmS t d (p+1) cd ci td ti x7 x8 x9 (some (.bool true)) m'))
  (hn: ¬(a.1=0∧e.1=0∧((a.2.length≤b.2.length∧b.2.drop (b.2.length-a.2.length)=a.2)∨b.2.take e.2.length=e.2))→Q .next (cmS t d (p+1) cd ci td ti x7 x8 x9 (some (.bool ch)) m)):
  zs P zq Q (cmS t d p cd ci td ti x7 x8 x9 (some (.bool ch)) m):=by
 obtain⟨t1,t2,t3⟩:=h3.tin hs
 have tail: ∀m' x,Q .next (cmS t d (p+1) cd ci td ti x7 x8 x9 x m')→zs P [.aug 2 .Add (.lit (.int 1))] Q (cmS t d p cd ci td ti x7 x8 x9 x m'):=fun m' x q=>q
 unfold zq
 refine ssx fun Q1 n1=>zi fun K kt kf=>?_
 walk_at "D"
 refine zj hm t1 h3.g1 (zah (zfq hT c.cE.1 c.cE.2 ?_))
 walk_at "D"
 by_cases h0:a.1=0
 ·rw[show decide (a.1=0)=true from decide_eq_true h0,if_pos rfl]
  refine zj hm t3 h3.g3 (zah (zfq hT c.cE.1 c.cE.2 ?_))
  walk_at "D"
  by_cases h1:e.1=0
  ·rw[show decide (e.1=0)=true from decide_eq_true h1,if_pos rfl]
   refine kt _ (ssx fun Q2 n2=>zi fun K2 kt2 kf2=>?_)
   walk_at "D"
   refine zj hm t2 h3.g2 (zN ⟨trivial,zj hm t1 h3.g1 (zN ?_)⟩)
   walk_at "D"
   by_cases hL:a.2.length≤b.2.length∧b.2.drop (b.2.length-a.2.length)=a.2
   ·rw[decide_eq_true hL]
    exact kt2 _ (z6x h3 hm hs ha hb hc hL.1 fun m' g1 g2=>n2 _ (zd (n1 _ (tail _ _ (hl h0 h1 hL m' g1 g2)))))
   ·rw[decide_eq_false hL]
    refine kf2 _ (ssx fun Q3 n3=>zi fun K3 kt3 kf3=>?_)
    walk_at "D"
    refine zj hm t2 h3.g2 (zN ⟨trivial,zj hm t3 h3.g3 (zN ?_)⟩)
    walk_at "D"
    by_cases hR:b.2.take e.2.length=e.2
    ·rw[decide_eq_true hR]
     have he:e.2.length≤b.2.length:=by
      have:=congrArg List.length hR
      rw[List.length_take] at this;exact zf 78438641144798183979 rfl this (Nat.min_le_right _ _)
     exact kt3 _ (z61 h3 hm hs ha hb hc he fun m' g1 g2=>n3 _ (zd (n2 _ (zd (n1 _ (tail _ _ (hr h0 h1 hL hR m' g1 g2)))))))
    ·rw[decide_eq_false hR]
     exact kf3 _ (zd (n3 _ (zd (n2 _ (zd (n1 _ (tail _ _ (hn fun q=>q.2.2.elim hL hR))))))))
  ·rw[show decide (e.1=0)=false from decide_eq_false h1,if_neg (by decide)]
   exact kf _ (zd (n1 _ (tail _ _ (hn fun q=>h1 q.2.1))))
 ·rw[show decide (a.1=0)=false from decide_eq_false h0,if_neg (by decide)]
  exact kf _ (zd (n1 _ (tail _ _ (hn fun q=>h0 q.1))))
end
theorem z3e {a b c:zG}{C:Row} (h0:a.1=0) (h1:c.1=0) (h:a.2.length≤b.2.length∧b.2.drop (b.2.length-a.2.length)=a.2):
  sgo a (b::c::C)=((b.1,a.2++b.2.take (b.2.length-a.2.length))::(sgo (c.1,a.2++c.2) C).1,true):=by
 rw[sgo,if_pos ⟨h0,h1⟩,if_pos h]
theorem z2d {a b c:zG}{C:Row} (h0:a.1=0) (h1:c.1=0) (h: ¬(a.2.length≤b.2.length∧b.2.drop (b.2.length-a.2.length)=a.2)) (h2:b.2.take c.2.length=c.2):
  sgo a (b::c::C)=((a.1,a.2++c.2)::(sgo (b.1,b.2.drop c.2.length++c.2) C).1,true):=by
 rw[sgo,if_pos ⟨h0,h1⟩,if_neg h,if_pos h2]
theorem z16 {a b c:zG}{C:Row} (h: ¬(a.1=0∧c.1=0∧((a.2.length≤b.2.length∧b.2.drop (b.2.length-a.2.length)=a.2)∨b.2.take c.2.length=c.2))):
  sgo a (b::c::C)=(a::(sgo b (c::C)).1,(sgo b (c::C)).2):=by
 rw[sgo]
 by_cases g:a.1=0∧c.1=0
 ·rw[if_pos g,if_neg (fun q=>h ⟨g.1,g.2,.inl q⟩),if_neg (fun q=>h ⟨g.1,g.2,.inr q⟩)]
 ·rw[if_neg g]
section
variable {P:PC}{Q:Fl→St→Prop}{t d:Addr}{td ti:Tx}{cd ci:Int}{x7 x8 x9 x10:Option V}{m:Mem}
inductive C2 (t d:Addr) (cd ci:Int) (td ti:Tx) (x7 x8 x9:Option V) (a0:zG) (r0:Row) (m:Mem) (n:Nat) (σ:St):Prop
 | mk (A:Row) (a:zG) (rest:Row) (ch:Bool) (m':Mem):σ=cmS t d ((A.length+1:Nat):Int) cd ci td ti x7 x8 x9 (some (.bool ch)) m'→n=rest.length→m' d=some (.list (rv (A++a::rest)))→Ext d m m'→
  A++(sgo a rest).1=(sgo a0 r0).1→(ch||(sgo a rest).2)=(sgo a0 r0).2→phi (A++a::rest)≤1000→C2 t d cd ci td ti x7 x8 x9 a0 r0 m n σ
theorem zyc (c:Cm P) {L:Row} (hT:zd6 P m t) (hm:m d=some (.list (rv L))) (hφ:phi L≤1000)
  (h: ∀m' p,m' d=some (.list (rv (zay L).1))→Ext d m m'→Q .next (cmS t d p cd ci td ti x7 x8 x9 (some (.bool (zay L).2)) m')):
  wpS P (.whl (.cmp (.var 2) [.Lt] [.bin .Sub (.bi .len [.var 1]) (.lit (.int 1))]) zq) Q (cmS t d 1 cd ci td ti x7 x8 x9 (some (.bool false)) m):=by
 cases L with
 | nil=>
  refine⟨fun n σ=>σ=cmS t d 1 cd ci td ti x7 x8 x9 (some (.bool false)) m,⟨0,rfl⟩,?_⟩
  rintro n σ rfl
  walk_at "D"
  refine zn9 hm (by unfold sma;simp) ?_
  walk_at "D"
  exact zb6 (by simp) (h m 1 hm (.refl _ _))
 | cons a0 r0=>
  refine⟨C2 t d cd ci td ti x7 x8 x9 a0 r0 m,⟨_,[],a0,r0,false,m,rfl,rfl,hm,.refl _ _,rfl,by simp,hφ⟩,?_⟩
  rintro n σ ⟨A,a,rest,ch,m',rfl,rfl,hm',hx,hS,hC,hφ'⟩
  have hL:=llp (A++a::rest)
  have e2:phi (A++a::rest)=phi A+(a.2.length+1+phi rest):=by rw[pha,zh]
  walk_at "D"
  refine zn9 hm' (by unfold sma;exact zc 9949073849436249927004832399912 rfl hφ' hL) ?_
  walk_at "D"
  match rest,hS,hC,hm',hL,e2,hφ' with
  | [],hS,hC,hm',hL,e2,hφ'=>
   refine zb6 (by simp;exact zw 34423709232 rfl) ?_
   have:=h m' ((A.length+1:Nat):Int) (by rw[show(zay (a0::r0)).1=(sgo a0 r0).1 from rfl,←hS];exact hm') hx
   rw[show(zay (a0::r0)).2=(sgo a0 r0).2 from rfl,←hC,show(sgo a []).2=false from rfl,Bool.or_false] at this
   exact this
  | [b],hS,hC,hm',hL,e2,hφ'=>
   refine zb6 (by simp;exact zw 36095902125368880 rfl) ?_
   have:=h m' ((A.length+1:Nat):Int) (by rw[show(zay (a0::r0)).1=(sgo a0 r0).1 from rfl,←hS];exact hm') hx
   rw[show(zay (a0::r0)).2=(sgo a0 r0).2 from rfl,←hC,show(sgo a [b]).2=false from rfl,Bool.or_false] at this
   exact this
  | b::e::C,hS,hC,hm',hL,e2,hφ'=>
   refine yV (by simp;exact zc 311921899928733321535747121 rfl) ?_
   have h3:At3 (A++a::b::e::C) ((A.length+1:Nat):Int) A a b e C:=⟨rfl,rfl⟩
   have e4:phi (b::e::C)=b.2.length+1+(e.2.length+1+phi C):=by rw[zh,zh]
   refine z45 c (hT.ext ⟨_,hm⟩ hx) h3 hm' (by exact zc 1231895573938013697347224104 rfl hL hφ') (by exact zP 1322739068188329992344104850028500011 rfl e2 hφ') (by exact zlw 12200149609655471586621302981194429630279507544640590891 rfl e2 hφ' e4) (by exact zlw 12200161301668570233844648610673091360543664792100934699 rfl e2 hφ' e4) (fun h0 h1 hl m'' g1 g2=>?_) (fun h0 h1 hl hr m'' g1 g2=>?_) (fun hn=>?_)
   ·rw[z3e h0 h1 hl] at hS hC
    refine⟨C.length,by simp;exact Nat.le_add_right ..,A++[(b.1,a.2++b.2.take (b.2.length-a.2.length))],(e.1,a.2++e.2),C,true,m'',?_,rfl,?_,hx.trans g2,?_,?_,?_⟩
    ·rw[List.length_append];rfl
    ·rw[g1];simp
    ·rw[←hS];simp
    ·rw[←hC];simp
    ·rw[pha,pha,zh,zh,zcn]
     simp only[List.length_append,List.length_take]
     have:=hl.1
     rw[Nat.min_eq_left (by exact zc 4952567644712 rfl (Nat.sub_le _ _))];exact zpr 126693839139944249287781640101931197742636743840816090250460109299470392734927179345826859 rfl e2 hφ' e4 (Nat.sub_add_cancel (zc 4952567644712 rfl hl.1))
   ·rw[z2d h0 h1 hl hr] at hS hC
    have he:e.2.length≤b.2.length:=by
     have:=congrArg List.length hr
     rw[List.length_take] at this;exact zf 78438641144798183979 rfl this (Nat.min_le_right _ _)
    refine⟨C.length,by simp;exact zw 554056155705 rfl,A++[(a.1,a.2++e.2)],(b.1,b.2.drop e.2.length++e.2),C,true,m'',?_,rfl,?_,hx.trans g2,?_,?_,?_⟩
    ·rw[List.length_append];rfl
    ·rw[g1];simp
    ·rw[←hS];simp
    ·rw[←hC];simp
    ·rw[pha,pha,zh,zh,zcn]
     simp only[List.length_append,List.length_drop];exact zpr 126693839140291625555385748901533308186374625156086848505460827012345765185112101861987371 rfl e2 hφ' e4 (Nat.sub_add_cancel (zc 4952567644712 rfl he))
   ·rw[z16 hn] at hS hC
    refine⟨(e::C).length,by simp,A++[a],b,e::C,ch,m',?_,rfl,?_,hx,?_,hC,?_⟩
    ·rw[List.length_append];rfl
    ·rw[hm'];simp
    ·rw[←hS];simp
    ·simpa using hφ'
theorem z1z (c:Cm P) {n:Nat}{R:Row}{p:Int} (hT:zd6 P m t) (hm:m d=some (.list (rv R))) (hk:zk R) (hφ:phi R≤999)
  (hrec: ∀L' m1 (Q':V→Mem→Prop),zd6 P m1 t→m1 d=some (.list (rv L'))→zk L'→phi L'<phi R→(∀m',m' d=some (.list (rv (zB n L')))→Ext d m1 m'→Q' .none m')→P.meth "diff_cleanupMerge" [.obj t,.obj d] Q' m1)
  (h: ∀σ',σ'.mem d=some (.list (rv (if (zay R).2 then zB n (zay R).1 else(zay R).1)))→Ext d m σ'.mem→Q .next σ'):
  zs P [.assign [.var 10] (.lit (.bool false)),.assign [.var 2] (.lit (.int 1)),
   .whl (.cmp (.var 2) [.Lt] [.bin .Sub (.bi .len [.var 1]) (.lit (.int 1))]) zq,.ife (.var 10) [.expr (.imeth (.var 0) "diff_cleanupMerge" [.var 1])] []] Q (cmS t d p cd ci td ti x7 x8 x9 x10 m):=by
 have hTd: ∃l,m d=some (.list l):=⟨_,hm⟩
 refine ssx fun Q1 n1=>?_
 walk_at "D"
 refine n1 _ (ssx fun Q2 n2=>?_)
 walk_at "D"
 refine n2 _ (ssx fun Q4 n4=>zyc c hT hm (by exact ntr ‹_› (by decide)) fun m4 p' hm4 hx4=>n4 _ ?_)
 have hφs:=zf2 R
 refine ssx fun Q5 n5=>zi fun K kt kf=>?_
 walk_at "D"
 cases hs:(zay R).2 with
 | false=>
  refine kf _ (zd (n5 _ (zd (h _ ?_ hx4))))
  show m4 d=_
  rw[hs,if_neg (by decide)];exact hm4
 | true=>
  rw[hs] at hφs
  refine kt _ (ssx fun Q6 n6=>?_)
  walk_at "D"
  have hT4:=hT.ext hTd hx4
  refine⟨zr2 hT4 c.fm,hrec _ m4 _ hT4 hm4 (zdq hk) (by simp at hφs;trivial) fun m5 hm5 hx5=>n6 _ (zd (n5 _ (zd (h _ ?_ (hx4.trans hx5)))))⟩
  show m5 d=_
  rw[hs,if_pos rfl];exact hm5
theorem z4m {R dn:Row}{u:Tx}{p:Int} (hm:m d=some (.list (rv R))) (e:R=dn++[((0:Int),u)]) (hφ:phi R≤1000)
  (h: ∀m',m' d=some (.list (rv (ze1 R)))→Ext d m m'→Q .next (cmS t d p cd ci td ti x7 x8 x9 x10 m')):
  wpS P (.ife (.cmp (.idx (.idx (.var 1) (.neg (.lit (.int 1)))) (.lit (.int 1))) [.Eq] [.lit (.str [])]) [.expr (.me (.var 1) .pop [])] []) Q (cmS t d p cd ci td ti x7 x8 x9 x10 m):=by
 subst e
 have hL:=llp (dn++[((0:Int),u)])
 refine zi fun K kt kf=>?_
 have hg:zH (dn++[((0:Int),u)]) (-1)=some ((0:Int),u):=by rw[zc1 _ (by simp)];simp
 walk_at "D"
 refine zj hm (by walk_at "t") hg (zN ?_)
 walk_at "D"
 by_cases hu:u=[]
 ·rw[decide_eq_true hu]
  refine kt _ (ssx fun Q4 n4=>?_)
  walk_at "D"
  refine⟨⟨_,hm⟩,rfl,rv dn,pv (0,u),by rw[hm,zb2];rfl,?_,n4 _ (zd (h _ ?_ (.upd _ _ _)))⟩
  ·rw[z6];unfold sma;simp at hL;exact zc 10187851621822719907129998843052584 rfl hφ hL
  ·rw[ups,zdc,if_pos hu]
 ·rw[decide_eq_false hu]
  refine kf _ (zd (h _ ?_ (.refl _ _)))
  rw[hm,zdc,if_neg hu]
theorem zjz (c:Cm P) {n:Nat}{L:Row} (hT:zd6 P m t) (hm:m d=some (.list (rv L))) (hk:zk L) (hφ:phi L≤999)
  (hrec: ∀L' m1 (Q':V→Mem→Prop),zd6 P m1 t→m1 d=some (.list (rv L'))→zk L'→phi L'<phi L→(∀m',m' d=some (.list (rv (zB n L')))→Ext d m1 m'→Q' .none m')→P.meth "diff_cleanupMerge" [.obj t,.obj d] Q' m1)
  (h: ∀σ',σ'.mem d=some (.list (rv (zB (n+1) L)))→Ext d m σ'.mem→Q .next σ'):
  zs P zR Q ⟨[V.obj t,.obj d].map some++List.replicate 9 none,m⟩:=by
 have hTd: ∃l,m d=some (.list l):=⟨_,hm⟩
 have hL:=llp L
 have e1:phi (L++[((0:Int),([]:Tx))])=phi L+1:=by rw[pha];rfl
 have hphi:phi (ze1 (zbi L))≤phi L:=zgh L
 have hkind:zk (ze1 (zbi L)):=zc9 _ (yP _ _ _ .nil .nil (hk.append (.cons (.inr (.inl rfl)) .nil)))
 obtain⟨dn,u,eM⟩:=zeu [] L [] [] (.inl rfl)
 unfold zR
 refine ssx fun Q1 n1=>?_
 walk_at "D"
 refine⟨hTd,zfq hT c.cE.1 c.cE.2 ?_⟩
 walk_at "D"
 refine⟨_,hm,by rw[z6];unfold sma;exact zc 9949073849436249927004827681320 rfl hφ hL,n1 _ ?_⟩
 have hx1:Ext d m (upd m d (.list (rv L++[V.tup [.int 0,.str []]]))):= .upd _ _ _
 have hm1:upd m d (.list (rv L++[V.tup [.int 0,.str []]])) d=some (.list (rv (L++[((0:Int),([]:Tx))]))):=by rw[ups,zb2];rfl
 clear n1
 generalize upd m d (.list (rv L++[V.tup [.int 0,.str []]]))=m1 at hx1 hm1
 refine ssx fun Q2 n2=>?_
 walk_at "D"
 refine n2 _ (ssx fun Q3 n3=>?_)
 walk_at "D"
 refine n3 _ (ssx fun Q4 n4=>?_)
 walk_at "D"
 refine n4 _ (ssx fun Q5 n5=>?_)
 walk_at "D"
 refine n5 _ (ssx fun Q6 n6=>?_)
 walk_at "D"
 refine n6 _ (ssx fun Q7 n7=>zxv c (hT.ext hTd hx1) hm1 (hk.append (.cons (.inr (.inl rfl)) .nil)) (by exact zc 1261462276620101678472686469672 rfl hφ e1) fun m2 p cd ci td ti x7 x8 x9 hm2 hφ2 hx2=>n7 _ ?_)
 have hx2:=hx1.trans hx2
 refine ssx fun Q8 n8=>z4m hm2 eM (by exact zf 10581922686580133096584384462773027368 rfl hφ e1 hφ2) fun m3 hm3 hx3=>n8 _ ?_
 have hx3:=hx2.trans hx3
 refine z1z c (hT.ext hTd hx3) hm3 hkind (by unfold zbi at hphi;exact ntr ‹_› ‹_›) (fun L' m1 Q' g1 g2 g3 g4=>hrec L' m1 Q' g1 g2 g3 (by unfold zbi at hphi;exact Nat.lt_of_lt_of_le ‹_› ‹_›)) fun σ' g1 g2=>h σ' ?_ (hx3.trans g2)
 rw[zB];exact g1
end
noncomputable def zqf (cls:Addr) (n:Nat) (f:String) (vs:List V) (Q:V→Mem→Prop) (m:Mem):Prop:=
 (f="diff_commonPrefix"∧∃s x y,vs=[s,.str x,.str y]∧sma x.length∧sma y.length∧Q (.int (lcp x y)) m)∨
 (f="diff_commonSuffix"∧∃s x y,vs=[s,.str x,.str y]∧sma x.length∧sma y.length∧Q (.int (lcs x y)) m)∨
 (f="diff_cleanupMerge"∧∃t d L,vs=[.obj t,.obj d]∧zd6 (za2 cls) m t∧m d=some (.list (rv L))∧zk L∧phi L<n∧phi L≤999∧∀m',m' d=some (.list (rv (zB n L)))→Ext d m m'→Q .none m')
noncomputable def pcM (cls:Addr) (n:Nat):PC:={za2 cls with meth:=zqf cls n}
theorem z6v (cls:Addr) (n:Nat):Cm (pcM cls n) where
 cD:=⟨rfl,rfl⟩
 cI:=⟨rfl,rfl⟩
 cE:=⟨rfl,rfl⟩
 fp:=rfl
 fs:=rfl
 fm:=rfl
 cp:=fun h1 h2 q=> .inl ⟨rfl,_,_,_,rfl,h1,h2,q⟩
 cs:=fun h1 h2 q=> .inr (.inl ⟨rfl,_,_,_,rfl,h1,h2,q⟩)
noncomputable def zio (K:Frag) (cls:Addr) (fns meths:List String):Bool:=
 zhg K (meA K cls "diff_commonPrefix") za4 zaq (zd5 za4 zaq zcz fns meths zcr) zO &&
 zhg K (meA K cls "diff_commonSuffix") za1 zaf (zd5 za1 zaf zcy fns meths zcv) zQ &&
 zhg K (meA K cls "diff_cleanupMerge") za8 zar (zd5 za8 zar zc4 fns meths zda) zR
theorem zox {G:GS}{cls:Addr} (b:Base G (za2 cls)) (h:zio G.K cls G.fns G.meths=true): ∀(n:Nat) (A:Around),Lv A (n+1)→∀f vs Q m,zqf cls n f vs Q m→zdk G A (.ref (meA G.K cls f)) vs Q m:=by
 have h0:=h
 unfold zio at h
 simp only[Bool.and_eq_true] at h
 obtain⟨⟨h1,h2⟩,h3⟩:=h
 intro n
 induction n with
 | zero=>
  intro A lv f vs Q m hc
  rcases hc with ⟨rfl,s,x,y,rfl,hx,hy,q⟩ | ⟨rfl,s,x,y,rfl,hx,hy,q⟩ | ⟨rfl,t,d,L,rfl,hT,hm,hk,hφ,_,_⟩
  ·exact(zag b.gok b.gbi h1 lv.room (fun env=>(lv.deeper env).rm) (fun env=>zzc b) (fun _ h=>h) (fun _ h=>h) rfl (ze5 (za2 cls) s x y m hx hy Q q)).toS
  ·exact(zag b.gok b.gbi h2 lv.room (fun env=>(lv.deeper env).rm) (fun env=>zzc b) (fun _ h=>h) (fun _ h=>h) rfl (ze8 (za2 cls) s x y m hx hy Q q)).toS
  ·exact absurd hφ (Nat.not_lt_zero _)
 | succ n ih=>
  intro A lv f vs Q m hc
  rcases hc with ⟨rfl,s,x,y,rfl,hx,hy,q⟩ | ⟨rfl,s,x,y,rfl,hx,hy,q⟩ | ⟨rfl,t,d,L,rfl,hT,hm,hk,hφ,hφ9,q⟩
  ·exact(zag b.gok b.gbi h1 lv.room (fun env=>(lv.deeper env).rm) (fun env=>zzc b) (fun _ h=>h) (fun _ h=>h) rfl (ze5 (za2 cls) s x y m hx hy Q q)).toS
  ·exact(zag b.gok b.gbi h2 lv.room (fun env=>(lv.deeper env).rm) (fun env=>zzc b) (fun _ h=>h) (fun _ h=>h) rfl (ze8 (za2 cls) s x y m hx hy Q q)).toS
  ·refine(zag (P:=pcM cls n) b.gok b.gbi h3 lv.room (fun env=>(lv.deeper env).rm) (fun env=>?_) (fun _ h=>h) (fun _ h=>h) rfl ?_).toS
   ·exact zhl (b.swap rfl rfl rfl) (fun _ _ _ _ _ h=>h.elim) (fun f _ vs Q m hc=>ih _ (lv.deeper env) f vs Q m hc) (fun _ _ _ _ h=>h.elim)
   ·refine zjz (z6v cls n) hT hm hk hφ9 (fun L' m1 Q' g1 g2 g3 g4 g5=>?_) fun σ' g1 g2=>q _ g1 g2
    exact .inr (.inr ⟨rfl,t,d,L',rfl,g1,g2,g3,by exact zf 43132595565262566720041 rfl hφ g4,by exact zc 1230536712949126585294258728 rfl hφ9 g4,g5⟩)
theorem zes {α:Type}{bind:V→(St→Prop)→St→Prop}{test:(Bool→St→Prop)→St→Prop}{elt:(V→St→Prop)→St→Prop}{g:Mem→Prop}{R:List V→St→Prop} (I:St→Prop) (h:α→V) (f:α→Option V):
  ∀(vs:List α) (us:List V) (σ:St),I σ→(∀σ,I σ→g σ.mem)→
  (∀v,v∈vs→∀σ,I σ→∀(K:V→St→Prop) (K':St→Prop),(f v=none→∀σ',I σ'→K' σ')→(∀u,f v=some u→∀σ',I σ'→K u σ')→bind (h v) (test fun b σ₁=>if b then elt K σ₁ else K' σ₁) σ)→
  (∀σ',I σ'→R (us++vs.filterMap f) σ')→zc5 bind test elt g R (vs.map h) us σ
 | [],us,σ,i,hg,_,hR=>⟨hg σ i,by have:=hR σ i;rwa [List.filterMap_nil,List.append_nil] at this⟩
 | v::vs,us,σ,i,hg,hs,hR=>by
  refine⟨hg σ i,hs v List.mem_cons_self σ i _ _ (fun e σ' i'=>?_) (fun u e σ' i'=>?_)⟩
  ·exact zes I h f vs us σ' i' hg (fun w hw=>hs w (List.mem_cons_of_mem _ hw)) (by rwa [List.filterMap_cons_none e] at hR)
  ·exact zes I h f vs (us++[u]) σ' i' hg (fun w hw=>hs w (List.mem_cons_of_mem _ hw)) (by rw[List.filterMap_cons_some e] at hR;simpa using hR)
theorem zex {α:Type}{bind:V→(St→Prop)→St→Prop}{body:(Fl→St→Prop)→St→Prop}{g:Mem→Prop}{Q:Fl→St→Prop} (h:α→V) (I:List α→St→Prop) (hg: ∀l σ,I l σ→g σ.mem)
  (step: ∀p l σ,I (p::l) σ→∀Q1:Fl→St→Prop,(∀σ',I l σ'→Q1 .next σ')→(∀v σ',Q (.ret v) σ'→Q1 (.ret v) σ')→bind (h p) (body Q1) σ)
  (fin: ∀σ,I [] σ→Q .next σ): ∀(l:List α) (σ:St),I l σ→zem bind body g Q (l.map h) σ
 | [],σ,i=>⟨hg _ _ i,fin σ i⟩
 | p::l,σ,i=>⟨hg _ _ i,step p l σ i _ (fun σ' i'=>zex h I hg step fin l σ' i') (fun v σ' q=>q)⟩
theorem ztx (a:Nat): ∀n:Nat,zdf (a:Int) 1 n=(List.range' a n).map fun j:Nat=>V.int j
 | 0=>rfl
 | n+1=>by
  rw[List.range'_succ,List.map_cons,←ztx (a+1) n];rfl
theorem zwk (a b:Nat):zs4 (a:Int) (b:Int) 1=(List.range' a (b-a)).map fun j:Nat=>V.int j:=by
 unfold zs4 Builtin.Range.rangeSize
 rw[if_pos (by decide),Int.ediv_one]
 have:(if (a:Int)<(b:Int) then(b:Int)-a-1+1 else 0).toNat=b-a:=by
  by_cases q:a<b
  ·rw[if_pos (Int.ofNat_lt.mpr q),Int.sub_add_cancel,←Int.ofNat_sub (Nat.le_of_lt q)];rfl
  ·rw[if_neg fun z=>q (Int.ofNat_lt.mp z),Nat.sub_eq_zero_of_le (Nat.le_of_not_lt q)];rfl
 rw[←ztx]
 exact congrArg _ this
theorem zuf {m:Mem}{d:Addr}{r:Row}{K:List V→(Mem→Prop)→Prop} (hm:m d=some (.list (rv r))) (hs:r.length≤1000) (h:K (rv r) fun m'=>m' d=some (.list (rv r))):yG m (.obj d) K:=
 ⟨_,hm,by rw[z6];unfold sma;exact ntr ‹_› (by decide),h⟩
noncomputable def zye:List Str:=["self"]
noncomputable def zsd:List Str:=[]
noncomputable def zpb:List (Str×NameKind):=[]
noncomputable def zo9:List Str:=[]
noncomputable def zgs:List Sm:=[
  .assign [.attr (.var 0) "Diff_Timeout"] (.lit (.flt 4607182418800017408)),
  .assign [.attr (.var 0) "Diff_EditCost"] (.lit (.int 4)),
  .assign [.attr (.var 0) "Match_Threshold"] (.lit (.flt 4602678819172646912)),
  .assign [.attr (.var 0) "Match_Distance"] (.lit (.int 1000)),
  .assign [.attr (.var 0) "Patch_DeleteThreshold"] (.lit (.flt 4602678819172646912)),
  .assign [.attr (.var 0) "Patch_Margin"] (.lit (.int 4)),
  .assign [.attr (.var 0) "Match_MaxBits"] (.lit (.int 32))]
noncomputable def zbd:List (Str×V):=[("Diff_Timeout",.flt 4607182418800017408),("Diff_EditCost",.int 4),("Match_Threshold",.flt 4602678819172646912),("Match_Distance",.int 1000),("Patch_DeleteThreshold",.flt 4602678819172646912),("Patch_Margin",.int 4),("Match_MaxBits",.int 32)]
theorem zdh {n:String}{v:V}: ∀{fs:List (Str×V)},(fs.map (·.1)).contains (Str.ofString n)=false→zns n v fs=fs++[(Str.ofString n,v)]
 | [],_=>rfl
 | (x,u)::r,h=>by
  simp only[List.map_cons,List.contains_cons,Bool.or_eq_false_iff,beq_eq_false_iff_ne] at h
  unfold zns
  rw[if_neg (Ne.symm h.1),zdh h.2];rfl
theorem zkd {n:String}: ∀{fs:List (Str×V)},(fs.map (·.1)).contains (Str.ofString n)=false→yT n fs=none
 | [],_=>rfl
 | (x,u)::r,h=>by
  simp only[List.map_cons,List.contains_cons,Bool.or_eq_false_iff,beq_eq_false_iff_ne] at h
  unfold yT
  rw[if_neg (Ne.symm h.1),zkd h.2]
noncomputable def zmo:List Str:=["Diff_Timeout","Diff_EditCost","Match_Threshold","Match_Distance","Patch_DeleteThreshold","Patch_Margin","Match_MaxBits"]
theorem zsi:zbd.map (·.1)=zmo:=rfl
theorem zx5: ∀n∈zti,zmo.contains (Str.ofString n)=false:=by decide +kernel
theorem z0x (n:String) (h:zge n=true):yT n zbd=none:=zkd (by rw[zsi];exact zx5 n (List.contains_iff_mem.mp h))
theorem zo2 {P:PC}{σ:St}{o:Ex}{n:String}{v:V}{Q:St→Prop}:zkp P (.attr o n) v Q σ=wpE P o (fun ov σ₁=> ∃a d fs,ov= .obj a∧σ₁.mem a=some (.inst P.cls d)∧σ₁.mem d=some (.dict fs)∧fs.length≤100∧P.fld n=true∧
   Q {σ₁ with mem:=upd σ₁.mem d (.dict (zns n v fs))}) σ:=rfl
theorem ziu (cls:Addr) (n:String) (h:["Diff_Timeout","Diff_EditCost","Match_Threshold","Match_Distance","Patch_DeleteThreshold","Patch_Margin","Match_MaxBits"].contains n=true):(za2 cls).fld n=true:=h
theorem z5j (cls t d:Addr) (m:Mem) (hI:m t=some (.inst cls d)) (hD:m d=some (.dict [])) (Q:V→Mem→Prop) (q: ∀m',m' t=some (.inst cls d)→m' d=some (.dict zbd)→(∀a o,a≠d→m a=some o→m' a=some o)→Q .none m'):
  zs (za2 cls) zgs (fun fl σ'=>Q (retV fl) σ'.mem) ⟨[V.obj t].map some++List.replicate 0 none,m⟩:=by
 have hne:t≠d:=fun e=>by subst e;rw[hI] at hD;cases hD
 have one: ∀(n:String) (v:V) (k:Nat) (m:Mem) (ss:List Sm) (Q:Fl→St→Prop),m t=some (.inst cls d)→m d=some (.dict (zbd.take k))→(za2 cls).fld n=true→zns n v (zbd.take k)=zbd.take (k+1)→
   (∀m',m'=upd m d (.dict (zbd.take (k+1)))→m' t=some (.inst cls d)→m' d=some (.dict (zbd.take (k+1)))→zs (za2 cls) ss Q ⟨[some (.obj t)],m'⟩)→zs (za2 cls) (.assign [.attr (.var 0) n] (.lit v)::ss) Q ⟨[some (.obj t)],m⟩:=fun n v k m ss Q h1 h2 h3 h4 h5=>by
  refine ssx fun Q1 n1=>?_
  dsimp only[r_lit,r_var,r_bin,r_neg,r_not,r_list,r_tup,r_cmp,r_band,r_bor,r_idx,r_slc,r_attr,r_bi,r_call,r_me,r_imeth,r_comp,r_comp2,r_ite,r_ch2,r_es0,r_es1,r_ch1,r_bo1,r_bo2,r_tnot,r_tband,r_tbor,r_tcmp,r_tvar,r_tcall,r_tme,r_tidx,r_tbi,r_ts0,r_ts1,r_tgs0,r_tgs1,r_sexpr,r_sassign,r_saug,r_sdel,r_sife,r_swhl,r_sfr,r_sret,r_ss0,r_ss1,tg_var,tg_tup,tg_idx,tg_slc,bin_add,bin_sub,bin_mul,bin_div,bin_mod,bin_cat,cmp_eqi,cmp_eqs,cmp_nei,cmp_nes,cmp_lt,cmp_le,cmp_gt,cmp_ge,cmp_isn,cmp_ist,cmp_notn,cmp_nott,tr_none,tr_bool,tr_int,tr_str,tr_tup,ix_str,ix_tup,sl_ii,sl_in,sl_ni,bi_lens,bi_lent,bi_min,bi_max,bi_rng,bi_rng2,me_find,me_find2,ok_find,me_app,ok_app,me_ins,me_pop,me_join,me_ends,me_starts,ok_ins,ok_pop,ok_join,ok_ends,ok_starts,it_str,it_rng,neg_int,aug_addi,aug_adds,aug_subi,St.set,St.setAll,List.map_cons,List.map_nil,List.replicate,List.cons_append,List.nil_append,List.getElem?_cons_succ,List.getElem?_cons_zero,List.set_cons_succ,List.set_cons_zero,List.length_cons,List.length_nil,dreduceIte,retV,zo2]
  refine⟨t,d,_,rfl,h1,h2,by simp[zbd];exact zw 2023106163507752 rfl (Nat.min_le_right _ _),h3,n1 _ ?_⟩
  rw[h4]
  exact h5 _ rfl (by rw[upn _ _ hne];exact h1) (ups _ _ _)
 unfold zgs
 refine one _ _ 0 m _ _ hI hD (ziu _ _ (by decide +kernel)) rfl fun m1 e1 i1 d1=>?_
 refine one _ _ 1 m1 _ _ i1 d1 (ziu _ _ (by decide +kernel)) (by rw[zdh (by decide +kernel)];rfl) fun m2 e2 i2 d2=>?_
 refine one _ _ 2 m2 _ _ i2 d2 (ziu _ _ (by decide +kernel)) (by rw[zdh (by decide +kernel)];rfl) fun m3 e3 i3 d3=>?_
 refine one _ _ 3 m3 _ _ i3 d3 (ziu _ _ (by decide +kernel)) (by rw[zdh (by decide +kernel)];rfl) fun m4 e4 i4 d4=>?_
 refine one _ _ 4 m4 _ _ i4 d4 (ziu _ _ (by decide +kernel)) (by rw[zdh (by decide +kernel)];rfl) fun m5 e5 i5 d5=>?_
 refine one _ _ 5 m5 _ _ i5 d5 (ziu _ _ (by decide +kernel)) (by rw[zdh (by decide +kernel)];rfl) fun m6 e6 i6 d6=>?_
 refine one _ _ 6 m6 _ _ i6 d6 (ziu _ _ (by decide +kernel)) (by rw[zdh (by decide +kernel)];rfl) fun m7 e7 i7 d7=>?_
 refine zd (q m7 i7 d7 fun a o ha h=>?_)
 rw[e7,upn _ _ ha,e6,upn _ _ ha,e5,upn _ _ ha,e4,upn _ _ ha,e3,upn _ _ ha,e2,upn _ _ ha,e1,upn _ _ ha];exact h
noncomputable def pd (p:zG):PyData:= .tuple [.int p.1,.str (mkS p.2)]
theorem zz7 {m:Mem}{a:Addr}{r:Row} (h:m a=some (.list (rv r))):rd 8 m (.obj a)=some (.list (r.map pd)):=by
 have e: ∀ys:Row,(rv ys).mapM (rd 7 m)=some (ys.map pd):=fun ys=>by
  induction ys with
  | nil=>rfl
  | cons y ys ih=>
   show((pv y)::rv ys).mapM (rd 7 m)=_
   rw[List.mapM_cons,ih];rfl
 rw[zz2 h,e];rfl
theorem z1t (r:Row):PyData.eqv (.list (r.map pd)) (.list (r.map pd))=true:=by
 show PyData.eqvAll _ _=true
 induction r with
 | nil=>rfl
 | cons p r ih=>
  rw[List.map_cons]
  show(PyData.eqv (pd p) (pd p)&&PyData.eqvAll (r.map pd) (r.map pd))=true
  rw[ih,Bool.and_true]
  show(decide ((p.1:Int)=p.1)&&(mkS p.2==mkS p.2&&true))=true
  simp
theorem Lv.call {A:Around}{k:Nat} (h:Lv A (k+1)) (C:Addr):Lv (A.under (.builtin "type.__call__" ⟨[.ref C],[]⟩)) k:=by
 have hw:Code.weight (.builtin "type.__call__" ⟨[.ref C],[]⟩)≤1:=Nat.le_of_eq (by kernel_rfl)
 have hu:Code.cUnits (.builtin "type.__call__" ⟨[.ref C],[]⟩)≤4:=by
  have e:Code.cUnits (.builtin "type.__call__" ⟨[.ref C],[]⟩)=1:=by kernel_rfl
  exact Nat.succ_pos _
 refine⟨h.hd,?_,?_⟩
 ·have:=h.dp;show A.depth+_+k<_;exact zP 127438831334109840764497197269544 rfl hw this
 ·have:=h.un;show A.units+_+4 * k+80<_;exact zP 143315762540464766331251359756859831030366339624 rfl hw this
theorem z3y {K:Frag}{h:Heap}{mg:Str→Option Value}{n:String}{f:Value} (X:K.In h) (g:h.Ns mainGlobals mg) (e:mg (Str.ofString n)=some f) (h1:fnV K n= .ref (fnA K n)):f= .ref (fnA K n):=by
 unfold fnV at h1
 cases q:nsIn K mainGlobals (Str.ofString n) with
 | none=>rw[q] at h1;cases h1
 | some o=>
  cases o with
  | none=>rw[q] at h1;cases h1
  | some v=>
   have:=mg_of X g q
   rw[e] at this
   cases this
   rw[q] at h1
   exact h1
noncomputable def zal:List Str:=["self","text1","text2","deadline"]
noncomputable def yQ:List Str:=["text1_length","text2_length","max_d","v_offset","v_length","v1","v2","delta","front","k1start","k1end","k2start","k2end","d","k1","k1_offset","x1","y1","k2_offset","x2","k2","y2"]
noncomputable def zci:List (Str×NameKind):=[("len",.globalImplicit),("range",.globalImplicit)]
noncomputable def zcc:List Str:=[]
noncomputable def zbq:List Sm:=[
  .aug 20 .Add (.lit (.int 1)),
  .aug 21 .Add (.lit (.int 1))]
noncomputable def zei:List Sm:=[
  .assign [.var 23] (.bin .Sub (.var 4) (.idx (.var 10) (.var 22))),
  .ife (.cmp (.var 20) [.GtE] [.var 23]) [
   .ret (.imeth (.var 0) "diff_bisectSplit" [.var 1,.var 2,.var 20,.var 21,.var 3])] []]
noncomputable def zae:List Sm:=[
  .assign [.var 22] (.bin .Sub (.bin .Add (.var 7) (.var 11)) (.var 18)),
  .ife (.band [.cmp (.var 22) [.GtE] [.lit (.int 0)],.cmp (.var 22) [.Lt] [.var 8],.cmp (.idx (.var 10) (.var 22)) [.NotEq] [.neg (.lit (.int 1))]]) zei []]
noncomputable def zad:List Sm:=[
  .assign [.var 19] (.bin .Add (.var 7) (.var 18)),
  .ife (.bor [.cmp (.var 18) [.Eq] [.neg (.var 17)],.band [.cmp (.var 18) [.NotEq] [.var 17],.cmp (.idx (.var 9) (.bin .Sub (.var 19) (.lit (.int 1)))) [.Lt] [.idx (.var 9) (.bin .Add (.var 19) (.lit (.int 1)))]]]) [
   .assign [.var 20] (.idx (.var 9) (.bin .Add (.var 19) (.lit (.int 1))))] [
   .assign [.var 20] (.bin .Add (.idx (.var 9) (.bin .Sub (.var 19) (.lit (.int 1)))) (.lit (.int 1)))],
  .assign [.var 21] (.bin .Sub (.var 20) (.var 18)),
  .whl (.band [.cmp (.var 20) [.Lt] [.var 4],.cmp (.var 21) [.Lt] [.var 5],.cmp (.idx (.var 1) (.var 20)) [.Eq] [.idx (.var 2) (.var 21)]]) zbq,
  .assign [.idx (.var 9) (.var 19)] (.var 20),
  .ife (.cmp (.var 20) [.Gt] [.var 4]) [
   .aug 14 .Add (.lit (.int 2))] [
   .ife (.cmp (.var 21) [.Gt] [.var 5]) [
    .aug 13 .Add (.lit (.int 2))] [
    .ife (.var 12) zae []]]]
noncomputable def zbo:List Sm:=[
  .aug 23 .Add (.lit (.int 1)),
  .aug 25 .Add (.lit (.int 1))]
noncomputable def zd7:List Sm:=[
  .assign [.var 20] (.idx (.var 9) (.var 19)),
  .assign [.var 21] (.bin .Sub (.bin .Add (.var 7) (.var 20)) (.var 19)),
  .assign [.var 23] (.bin .Sub (.var 4) (.var 23)),
  .ife (.cmp (.var 20) [.GtE] [.var 23]) [
   .ret (.imeth (.var 0) "diff_bisectSplit" [.var 1,.var 2,.var 20,.var 21,.var 3])] []]
noncomputable def zan:List Sm:=[
  .assign [.var 19] (.bin .Sub (.bin .Add (.var 7) (.var 11)) (.var 24)),
  .ife (.band [.cmp (.var 19) [.GtE] [.lit (.int 0)],.cmp (.var 19) [.Lt] [.var 8],.cmp (.idx (.var 9) (.var 19)) [.NotEq] [.neg (.lit (.int 1))]]) zd7 []]
noncomputable def zai:List Sm:=[
  .assign [.var 22] (.bin .Add (.var 7) (.var 24)),
  .ife (.bor [.cmp (.var 24) [.Eq] [.neg (.var 17)],.band [.cmp (.var 24) [.NotEq] [.var 17],.cmp (.idx (.var 10) (.bin .Sub (.var 22) (.lit (.int 1)))) [.Lt] [.idx (.var 10) (.bin .Add (.var 22) (.lit (.int 1)))]]]) [
   .assign [.var 23] (.idx (.var 10) (.bin .Add (.var 22) (.lit (.int 1))))] [
   .assign [.var 23] (.bin .Add (.idx (.var 10) (.bin .Sub (.var 22) (.lit (.int 1)))) (.lit (.int 1)))],
  .assign [.var 25] (.bin .Sub (.var 23) (.var 24)),
  .whl (.band [.cmp (.var 23) [.Lt] [.var 4],.cmp (.var 25) [.Lt] [.var 5],.cmp (.idx (.var 1) (.bin .Sub (.neg (.var 23)) (.lit (.int 1)))) [.Eq] [.idx (.var 2) (.bin .Sub (.neg (.var 25)) (.lit (.int 1)))]]) zbo,
  .assign [.idx (.var 10) (.var 22)] (.var 23),
  .ife (.cmp (.var 23) [.Gt] [.var 4]) [
   .aug 16 .Add (.lit (.int 2))] [
   .ife (.cmp (.var 25) [.Gt] [.var 5]) [
    .aug 15 .Add (.lit (.int 2))] [
    .ife (.not (.var 12)) zan []]]]
noncomputable def zb4:List Sm:=[
  .fr (.var 18) (.bi .range [.bin .Add (.neg (.var 17)) (.var 13),.bin .Sub (.bin .Add (.var 17) (.lit (.int 1))) (.var 14),.lit (.int 2)]) zad,
  .fr (.var 24) (.bi .range [.bin .Add (.neg (.var 17)) (.var 15),.bin .Sub (.bin .Add (.var 17) (.lit (.int 1))) (.var 16),.lit (.int 2)]) zai]
noncomputable def yL:List Sm:=[
  .assign [.var 4] (.bi .len [.var 1]),
  .assign [.var 5] (.bi .len [.var 2]),
  .assign [.var 6] (.bin .FloorDiv (.bin .Add (.bin .Add (.var 4) (.var 5)) (.lit (.int 1))) (.lit (.int 2))),
  .assign [.var 7] (.var 6),
  .assign [.var 8] (.bin .Mult (.lit (.int 2)) (.var 6)),
  .assign [.var 9] (.bin .Mult (.list [.neg (.lit (.int 1))]) (.var 8)),
  .assign [.idx (.var 9) (.bin .Add (.var 7) (.lit (.int 1)))] (.lit (.int 0)),
  .assign [.var 10] (.slc (.var 9) (.lit .none) (.lit .none) (.lit .none)),
  .assign [.var 11] (.bin .Sub (.var 4) (.var 5)),
  .assign [.var 12] (.cmp (.bin .Mod (.var 11) (.lit (.int 2))) [.NotEq] [.lit (.int 0)]),
  .assign [.var 13] (.lit (.int 0)),
  .assign [.var 14] (.lit (.int 0)),
  .assign [.var 15] (.lit (.int 0)),
  .assign [.var 16] (.lit (.int 0)),
  .fr (.var 17) (.bi .range [.var 6]) zb4,
  .ret (.list [.tup [.attr (.var 0) "DIFF_DELETE",.var 1],.tup [.attr (.var 0) "DIFF_INSERT",.var 2]])]
noncomputable def vl (off:Nat) (f:Int→Int):List V:=(List.range (2 * off)).map fun(i:Nat)=>V.int (f ((i:Int)-off))
theorem zhi (off:Nat) (f:Int→Int):(vl off f).length=2 * off:=by unfold vl;rw[List.length_map,List.length_range]
theorem zxs {off:Nat}{f:Int→Int}{i:Nat} (h:i<2 * off):(vl off f)[i]? =some (.int (f ((i:Int)-off))):=by
 unfold vl;rw[List.getElem?_map,List.getElem?_range h];rfl
theorem z60 {off:Nat}{f:Int→Int}{k:Int} (h1:-(off:Int)≤k) (h2:k<off):zH (vl off f) ((off:Int)+k)=some (.int (f k)):=by
 obtain⟨i,hi⟩: ∃i:Nat,(off:Int)+k=i:=⟨((off:Int)+k).toNat,by exact Int.le_antisymm (yR 23319024718555941762083 rfl (Int.toNat_of_nonneg (zbm 292522895320611872 rfl h1))) (yR 2543925548432564952610 rfl (Int.toNat_of_nonneg (zbm 292522895320611872 rfl h1)))⟩
 rw[hi,yA _ _ (by rw[zhi];exact yR 358014151020663532145279521 rfl h2 hi),zxs (by exact yR 358014151020663532145279521 rfl h2 hi)]
 congr 3;exact Int.le_antisymm (yR 2543379486977746279971 rfl hi) (yR 4450097171703007343650 rfl hi)
theorem zzf {off:Nat}{f:Int→Int}{k v:Int}{i:Nat} (hi:(off:Int)+k=i) (h:i<2 * off):(vl off f).set i (.int v)=vl off (up f k v):=by
 apply List.ext_getElem?
 intro j
 by_cases hj:j<2 * off
 ·rw[zxs hj]
  by_cases e:i=j
  ·subst e
   rw[List.getElem?_set_self (by rw[zhi];exact h),show((i:Int)-off)=k by exact Int.le_antisymm (yR 2543379486977746279971 rfl hi) (yR 4450097171703007343650 rfl hi),zih]
  ·rw[List.getElem?_set_ne e,zxs hj,zrs _ _ (by grind)]
 ·rw[List.getElem?_eq_none (by rw[List.length_set,zhi];exact zc 81146217358239788 rfl hj),List.getElem?_eq_none (by rw[zhi];exact zc 81146217358239788 rfl hj)]
theorem zd4 {m:Mem}{l:Addr}{off:Nat}{f:Int→Int}{k i:Int}{K:V→Prop} (hm:m l=some (.list (vl off f))) (hi:i=(off:Int)+k) (h1:-(off:Int)≤k) (h2:k<off) (ho:off≤1000) (q:K (.int (f k))):zju m (.obj l) (.int i) K:=by
 subst hi
 exact⟨by unfold tiny;exact⟨zbm 160825502900741088490475813920 rfl h1,zbm 5266212349436448044126045170430248944161 rfl h2 ho⟩,_,_,hm,z60 h1 h2,q⟩
theorem z5x {p:Prop} [Decidable p] {X Y:Prop} (hp: ¬p) (x:X):if decide p=false then X else Y:=by rw[if_pos (decide_eq_false hp)];exact x
theorem z0a {p:Prop} [Decidable p] {X Y:Prop} (hp:p) (y:Y):if decide p=false then X else Y:=by rw[if_neg (by rw[decide_eq_true hp];decide)];exact y
noncomputable abbrev bsS (s:V) (a b:Tx) (dl:V) (off:Nat) (l1 l2:Addr) (ks ke ks2 ke2:Nat) (d:Int) (u18 u19 u20 u21 u22 u23 u24 u25:Option V) (m:Mem):St:=
 ⟨[some s,some (.str a),some (.str b),some dl,some (.int a.length),some (.int b.length),some (.int off),some (.int off),some (.int (2 * off)),some (.obj l1),some (.obj l2),some (.int ((a.length:Int)-b.length)),some (.bool (zgo a b)),
  some (.int ks),some (.int ke),some (.int ks2),some (.int ke2),some (.int d),u18,u19,u20,u21,u22,u23,u24,u25],m⟩
section
variable {P:PC}{Q:Fl→St→Prop}{s dl:V}{a b:Tx}{off:Nat}{l1 l2:Addr}{ks ke ks2 ke2:Nat}{d:Nat}{u18 u19 u20 u21 u22 u23 u24 u25:Option V}{m:Mem}{f g:Int→Int}
inductive IW (N:Nat) (S:Nat→St) (n:Nat) (σ:St):Prop
 | mk (t:Nat):t≤N→n=N-t→σ=S t→IW N S n σ
theorem z70 {p:Int}{x y:Nat} (hx:sma a.length) (hy:sma b.length) (h:Q .next (bsS s a b dl off l1 l2 ks ke ks2 ke2 d (some (.int p)) u19 (some (.int ((x+lcp (a.drop x) (b.drop y):Nat):Int))) (some (.int ((y+lcp (a.drop x) (b.drop y):Nat):Int))) u22 u23 u24 u25 m)):
  wpS P (.whl (.band [.cmp (.var 20) [.Lt] [.var 4],.cmp (.var 21) [.Lt] [.var 5],.cmp (.idx (.var 1) (.var 20)) [.Eq] [.idx (.var 2) (.var 21)]]) zbq) Q (bsS s a b dl off l1 l2 ks ke ks2 ke2 d (some (.int p)) u19 (some (.int x)) (some (.int y)) u22 u23 u24 u25 m):=by
 refine⟨IW (lcp (a.drop x) (b.drop y)) fun t=>bsS s a b dl off l1 l2 ks ke ks2 ke2 d (some (.int p)) u19 (some (.int ((x+t:Nat):Int))) (some (.int ((y+t:Nat):Int))) u22 u23 u24 u25 m,⟨_,0,Nat.zero_le _,rfl,rfl⟩,?_⟩
 rintro n σ ⟨t,ht,rfl,rfl⟩
 have hl:=zV (a.drop x) (b.drop y)
 rw[List.length_drop,List.length_drop] at hl
 unfold zbq
 walk_at "D"
 have out: ¬t<lcp (a.drop x) (b.drop y)→Q .next (bsS s a b dl off l1 l2 ks ke ks2 ke2 d (some (.int p)) u19 (some (.int ((x+t:Nat):Int))) (some (.int ((y+t:Nat):Int))) u22 u23 u24 u25 m):=fun q=>by
  have:t=lcp (a.drop x) (b.drop y):=Nat.le_antisymm ht (Nat.le_of_not_lt q)
  rw[this];exact h
 by_cases c1:x+t<a.length
 ·refine yV (Int.ofNat_lt.mpr c1) ?_
  by_cases c2:y+t<b.length
  ·refine yV (Int.ofNat_lt.mpr c2) ⟨tiny_n (ntr (Nat.le_of_lt c1) hx),_,(yA a _ c1).trans (List.getElem?_eq_getElem c1),tiny_n (ntr (Nat.le_of_lt c2) hy),_,(yA b _ c2).trans (List.getElem?_eq_getElem c2),?_⟩
   have key:t<lcp (a.drop x) (b.drop y)↔a[x+t]=b[y+t]:=by
    constructor
    ·intro q
     have e:=(yU (t+1) (a.drop x) (b.drop y) (ntr q (zV _ _).1) (ntr q (zV _ _).2)).mp q
     have:=congrArg (fun l=>l[t]?) e
     simp only[List.getElem?_take,List.getElem?_drop] at this
     rw[if_pos (Nat.lt_succ_self t),if_pos (Nat.lt_succ_self t),List.getElem?_eq_getElem c1,List.getElem?_eq_getElem c2] at this
     exact Option.some.inj this
    ·intro e
     refine Nat.lt_of_not_le fun q=>?_
     have e2:t=lcp (a.drop x) (b.drop y):=Nat.le_antisymm ht q
     subst e2
     exact(zje a b x y).stop c1 c2 e
   by_cases c3:t<lcp (a.drop x) (b.drop y)
   ·refine yV (by rw[key.mp c3]) ?_
    exact⟨_,Nat.sub_lt_sub_left c3 (Nat.lt_succ_self t),t+1,c3,rfl,rfl⟩
   ·exact zb6 (fun q=>c3 (key.mpr (by simpa using q))) (out c3)
  ·exact zb6 (fun q=>c2 (Int.ofNat_lt.mp q)) (out fun q=>c2 (Nat.add_lt_of_lt_sub' (Nat.lt_of_lt_of_le q hl.2)))
 ·exact zb6 (fun q=>c1 (Int.ofNat_lt.mp q)) (out fun q=>c1 (Nat.add_lt_of_lt_sub' (Nat.lt_of_lt_of_le q hl.1)))
end
theorem zlh {n i:Nat} (h:i<n):zpz n (i:Int)=some i:=by
 unfold zpz seqIndex?
 have e:(if (i:Int)<0 then(i:Int)+n else(i:Int))=i:=if_neg (by exact Int.not_lt.mpr (zw 983088 rfl))
 simp only[e]
 rw[if_pos (by simp;omega)];simp
section
variable {P:PC}{Q:Fl→St→Prop}{s dl:V}{a b:Tx}{off:Nat}{l1 l2:Addr}{ks ke ks2 ke2:Nat}{d:Nat}{u18 u19 u20 u21 u22 u23 u24 u25:Option V}{m:Mem}{f g:Int→Int}
theorem z08 {p:Int} (hm:m l1=some (.list (vl off f))) (ho:off≤1000) (ho2:2≤off) (hd:d<off) (h1:-(d:Int)≤p) (h2:p≤d)
  (h:Q .next (bsS s a b dl off l1 l2 ks ke ks2 ke2 d (some (.int p)) (some (.int ((off:Int)+p))) (some (.int (pick d p f))) u21 u22 u23 u24 u25 m)):
  wpS P (.ife (.bor [.cmp (.var 18) [.Eq] [.neg (.var 17)],.band [.cmp (.var 18) [.NotEq] [.var 17],.cmp (.idx (.var 9) (.bin .Sub (.var 19) (.lit (.int 1)))) [.Lt] [.idx (.var 9) (.bin .Add (.var 19) (.lit (.int 1)))]]]) [
   .assign [.var 20] (.idx (.var 9) (.bin .Add (.var 19) (.lit (.int 1))))] [
   .assign [.var 20] (.bin .Add (.idx (.var 9) (.bin .Sub (.var 19) (.lit (.int 1)))) (.lit (.int 1)))]) Q
   (bsS s a b dl off l1 l2 ks ke ks2 ke2 d (some (.int p)) (some (.int ((off:Int)+p))) u20 u21 u22 u23 u24 u25 m):=by
 refine zi fun K kt kf=>?_
 have yes: ∀(_:pick d p f=f (p+1)) (_:p+1<off),K true (bsS s a b dl off l1 l2 ks ke ks2 ke2 d (some (.int p)) (some (.int ((off:Int)+p))) u20 u21 u22 u23 u24 u25 m):=fun e q=>kt _ (by
  walk_at "D"
  rw[e] at h
  exact zd4 hm (k:=p+1) (by exact Int.le_antisymm (zbm 36938591248295896112 rfl) (zbm 36930054640025793584 rfl)) (by exact yR 154932870914035706428457513 rfl hd h1) q ho h)
 have no: ∀(_:pick d p f=f (p-1)+1) (_:-(off:Int)≤p-1),K false (bsS s a b dl off l1 l2 ks ke ks2 ke2 d (some (.int p)) (some (.int ((off:Int)+p))) u20 u21 u22 u23 u24 u25 m):=fun e q=>kf _ (by
  walk_at "D"
  rw[e] at h
  exact zd4 hm (k:=p-1) (by exact Int.le_antisymm (zbm 36943094847923267120 rfl) (zbm 36930055189785801776 rfl)) q (by exact yR 2986899998541986885337641 rfl hd h2) ho h)
 clear h kt kf
 walk_at "D"
 by_cases c1:p=-(d:Int)
 ·exact z0a c1 (yes (if_pos (.inl c1)) (by exact yR 4552384568943560653611048 rfl ho2 c1))
 ·refine z5x c1 ?_
  by_cases c2:p=(d:Int)
  ·exact zct c2 (no (if_neg (by rintro (q | q);exact c1 q;exact q.1 c2)) (by exact yR 19368822473543580366479400 rfl ho2 c2))
  ·refine zef c2 (zd4 hm (k:=p-1) (by exact Int.le_antisymm (zbm 36943094847923267120 rfl) (zbm 36930055189785801776 rfl)) (by exact yR 154951760379967185009312297 rfl hd h1) (by exact yR 2986899998541986885337641 rfl hd h2) ho (zd4 hm (k:=p+1) (by exact Int.le_antisymm (zbm 36938591248295896112 rfl) (zbm 36930054640025793584 rfl)) (by exact yR 154932870914035706428457513 rfl hd h1) (by lia) ho ?_))
   walk_at "D"
   by_cases c3:f (p-1)<f (p+1)
   ·rw[decide_eq_true c3];exact yes (if_pos (.inr ⟨c2,c3⟩)) (by grind)
   ·rw[decide_eq_false c3];exact no (if_neg (by rintro (q | q);exact c1 q;exact c3 q.2)) (by exact yR 154951760379967185009312297 rfl hd h1)
theorem z4a {p:Int}{x y:Nat} (hm:m l2=some (.list (vl off g))) (ho:off≤1000) (hp:p=(x:Int)-y) (hx:x≤a.length) (hy:y≤b.length)
  (hN: ¬Hit a b off g p x→∀u22 u23,Q .next (bsS s a b dl off l1 l2 ks ke ks2 ke2 d (some (.int p)) u19 (some (.int x)) (some (.int y)) u22 u23 u24 u25 m))
  (hR:Hit a b off g p x→∀loc,P.meth "diff_bisectSplit" [s,.str a,.str b,.int x,.int y,dl] (fun r m'=>Q (.ret r) ⟨loc,m'⟩) m)
  (hs: ∃A dd fs,s= .obj A∧m A=some (.inst P.cls dd)∧m dd=some (.dict fs)∧yT "diff_bisectSplit" fs=none):
  zs P zae Q (bsS s a b dl off l1 l2 ks ke ks2 ke2 d (some (.int p)) u19 (some (.int x)) (some (.int y)) u22 u23 u24 u25 m):=by
 unfold zae
 refine ssx fun Q1 n1=>?_
 walk_at "D"
 refine n1 _ (ssn (zi fun K kt kf=>?_))
 have hlx:(x:Int)≤a.length:=Int.ofNat_le.mpr hx
 have hly:(x:Int)-p≤b.length:=by rw[hp];exact zf 23321048326212665541160 rfl hy
 have no: ¬Hit a b off g p x→K false (bsS s a b dl off l1 l2 ks ke ks2 ke2 d (some (.int p)) u19 (some (.int x)) (some (.int y)) (some (.int ((off:Int)+((a.length:Int)-b.length)-p))) u23 u24 u25 m):=fun q=>kf _ (hN q _ _)
 walk_at "D"
 by_cases c1:0≤(off:Int)+((a.length:Int)-b.length)-p
 ·refine yV c1 ?_
  by_cases c2:(off:Int)+((a.length:Int)-b.length)-p<2 * off
  ·refine yV c2 (zd4 hm (k:=(a.length:Int)-b.length-p) (by exact Int.le_antisymm (za6 22574563145042216640666117680 rfl) (za6 22574562290475180147871904816 rfl)) (by exact za6 1479446570283131820520734903697440 rfl c1) (by exact za6 311722742333569298731940934626813473 rfl c2) ho ?_)
   walk_at "D"
   by_cases c3:g ((a.length:Int)-b.length-p)=-1
   ·rw[decide_eq_true c3]
    exact no fun q=>q.2.2.2.2.1 c3
   ·rw[decide_eq_false c3]
    refine kt _ ?_
    unfold zei
    refine ssx fun Q2 n2=>?_
    walk_at "D"
    refine zd4 hm (k:=(a.length:Int)-b.length-p) (by exact Int.le_antisymm (za6 22574563145042216640666117680 rfl) (za6 22574562290475180147871904816 rfl)) (by exact za6 1479446570283131820520734903697440 rfl c1) (by exact za6 311722742333569298731940934626813473 rfl c2) ho ?_
    walk_at "D"
    refine n2 _ (ssn (zi fun K' kt' kf'=>?_))
    walk_at "D"
    by_cases c4:(a.length:Int)-g ((a.length:Int)-b.length-p)≤x
    ·rw[decide_eq_true c4]
     refine kt' _ ?_
     walk_at "D"
     exact⟨hs,hR ⟨hlx,hly,by grind,by grind,c3,c4⟩ _⟩
    ·rw[decide_eq_false c4]
     exact kf' _ (hN (fun q=>c4 q.2.2.2.2.2) _ _)
  ·exact zb6 c2 (no fun q=>by have:=q.2.2.2.1;exact za6 311722742333493713020426946054400036 rfl c2 this)
 ·exact zb6 c1 (no fun q=>by have:=q.2.2.1;exact za6 1479446570283057992802354294400549 rfl c1 this)
noncomputable def zi5 (l1 l2:Addr) (m m':Mem):Prop:= ∀a o,a≠l1→a≠l2→m a=some o→m' a=some o
theorem zi5.refl (l1 l2:Addr) (m:Mem):zi5 l1 l2 m m:=fun _ _ _ _ e=>e
theorem zi5.trans {l1 l2:Addr}{m m' m'':Mem} (x:zi5 l1 l2 m m') (y:zi5 l1 l2 m' m''):zi5 l1 l2 m m'':=fun a o h h2 e=>y a o h h2 (x a o h h2 e)
theorem z05 {p:Int}{x1 y1:Nat} (hm2:m l2=some (.list (vl off g))) (ho:off≤1000) (hp:p=(x1:Int)-(y1:Int))
  (hN: ∀{i j:Nat},i=ks' a b x1 y1 ks→j=ke' a x1 ke→¬(zgo a b=true∧Hit a b off g p x1)→∀u22 u23,Q .next (bsS s a b dl off l1 l2 i j ks2 ke2 d (some (.int p)) u19 (some (.int x1)) (some (.int y1)) u22 u23 u24 u25 m))
  (hR:zgo a b=true∧Hit a b off g p x1→∀loc,P.meth "diff_bisectSplit" [s,.str a,.str b,.int x1,.int y1,dl] (fun r m'=>Q (.ret r) ⟨loc,m'⟩) m)
  (hs: ∃A dd fs,s= .obj A∧m A=some (.inst P.cls dd)∧m dd=some (.dict fs)∧yT "diff_bisectSplit" fs=none):
  zs P [.ife (.cmp (.var 20) [.Gt] [.var 4]) [.aug 14 .Add (.lit (.int 2))] [.ife (.cmp (.var 21) [.Gt] [.var 5]) [.aug 13 .Add (.lit (.int 2))] [.ife (.var 12) zae []]]] Q
   (bsS s a b dl off l1 l2 ks ke ks2 ke2 d (some (.int p)) u19 (some (.int x1)) (some (.int y1)) u22 u23 u24 u25 m):=by
 refine ssn (zi fun K kt kf=>?_)
 walk_at "D"
 by_cases c1:a.length<x1
 ·rw[decide_eq_true (Int.ofNat_lt.mpr c1)]
  exact kt _ (hN (if_pos c1).symm (if_pos c1).symm (fun q=>absurd (Int.ofNat_le.mp q.2.1) (Nat.not_le_of_lt c1)) _ _)
 ·rw[decide_eq_false fun q=>c1 (Int.ofNat_lt.mp q)]
  refine kf _ (ssn (zi fun K' kt' kf'=>?_))
  walk_at "D"
  by_cases c2:b.length<y1
  ·rw[decide_eq_true (Int.ofNat_lt.mpr c2)]
   exact kt' _ (hN ((if_neg c1).trans (if_pos c2)).symm (if_neg c1).symm (fun q=>absurd q.2.2.1 (by rw[hp];exact Int.not_le.mpr (zf 23358014583973809291817 rfl c2))) _ _)
  ·rw[decide_eq_false fun q=>c2 (Int.ofNat_lt.mp q)]
   refine kf' _ (ssn (zi fun K2 kt2 kf2=>?_))
   have hN:=hN ((if_neg c1).trans (if_neg c2)).symm (if_neg c1).symm
   suffices go: ∀t,zgo a b=t→K2 t (bsS s a b dl off l1 l2 ks ke ks2 ke2 d (some (.int p)) u19 (some (.int x1)) (some (.int y1)) u22 u23 u24 u25 m) from go _ rfl
   intro t co
   cases t with
   | false=>exact kf2 _ (hN (fun q=>by rw[co] at q;cases q.1) _ _)
   | true=>exact kt2 _ (z4a hm2 ho hp (Nat.le_of_not_lt c1) (Nat.le_of_not_lt c2) (fun q=>hN fun z=>q z.2) (fun q loc=>hR ⟨co,q⟩ loc) hs)
theorem zxp {p:Int}{x y:Nat}{T:Tab} (hT:T.ks=ks∧T.ke=ke) (hm:m l1=some (.list (vl off T.f))) (hm2:m l2=some (.list (vl off g))) (hne:l1≠l2) (ho:off≤1000) (ho2:2≤off) (hd:d<off) (h1:-(d:Int)≤p) (h2:p≤d) (hx:sma a.length) (hy:sma b.length)
  (e1:pick d p T.f=x) (e2:p=(x:Int)-y)
  (hN: ¬(zgo a b=true∧Hit a b off g p (tx a b d p T.f))→∀m' u19 u20 u21 u22 u23,m' l1=some (.list (vl off (step a b d p T).f))→m' l2=some (.list (vl off g))→zi5 l1 l2 m m'→
   Q .next (bsS s a b dl off l1 l2 (step a b d p T).ks (step a b d p T).ke ks2 ke2 d (some (.int p)) u19 u20 u21 u22 u23 u24 u25 m'))
  (hR:zgo a b=true∧Hit a b off g p (tx a b d p T.f)→∀m' loc,zi5 l1 l2 m m'→P.meth "diff_bisectSplit" [s,.str a,.str b,.int (tx a b d p T.f),.int (tx a b d p T.f-p),dl] (fun r m'=>Q (.ret r) ⟨loc,m'⟩) m')
  (hs: ∀m',zi5 l1 l2 m m'→∃A dd fs,s= .obj A∧m' A=some (.inst P.cls dd)∧m' dd=some (.dict fs)∧yT "diff_bisectSplit" fs=none):
  zs P zad Q (bsS s a b dl off l1 l2 ks ke ks2 ke2 d (some (.int p)) u19 u20 u21 u22 u23 u24 u25 m):=by
 obtain⟨rfl,rfl⟩:=hT
 have ht:tx a b d p T.f=((x+lcp (a.drop x) (b.drop y):Nat):Int):=by
  unfold tx;rw[e1,show((x:Int)-p).toNat=y by exact Nat.le_antisymm (za6 180910915598726644797557241379 rfl e2 (Int.toNat_of_nonneg (yR 299579473643385324066 rfl e2))) (za6 338129340399785016752946741794 rfl e2 (Int.toNat_of_nonneg (yR 299579473643385324066 rfl e2))),Int.toNat_natCast];exact Int.le_antisymm (zc 317033342366768 rfl) (zc 347511210421808 rfl)
 have ht2:tx a b d p T.f-p=((y+lcp (a.drop x) (b.drop y):Nat):Int):=by rw[ht];exact Int.le_antisymm (za6 42271000652164888154993653283 rfl e2) (za6 2804914249259621151326011938 rfl e2)
 unfold zad
 refine ssx fun Q1 n1=>?_
 walk_at "D"
 refine n1 _ (ssx fun Q2 n2=>z08 (f:=T.f) hm ho ho2 hd h1 h2 (n2 _ (ssx fun Q3 n3=>?_)))
 walk_at "D"
 rw[e1,show(x:Int)-p=(y:Int) by exact Int.le_antisymm (yR 23319024999993127794211 rfl e2) (yR 2396657840655343223330 rfl e2)]
 refine n3 _ (ssx fun Q4 n4=>z70 hx hy (n4 _ (ssx fun Q5 n5=>?_)))
 have hp:p=((x+lcp (a.drop x) (b.drop y):Nat):Int)-((y+lcp (a.drop x) (b.drop y):Nat):Int):=Int.le_antisymm (za6 42271038142489761479399244322 rfl e2) (za6 2806122564058985798748403235 rfl e2)
 have hf:up T.f p ((x+lcp (a.drop x) (b.drop y):Nat):Int)=(step a b d p T).f:=by rw[←ht];rfl
 have hS:(step a b d p T).ks=ks' a b (x+lcp (a.drop x) (b.drop y)) (y+lcp (a.drop x) (b.drop y)) T.ks∧(step a b d p T).ke=ke' a (x+lcp (a.drop x) (b.drop y)) T.ke:=by
  unfold step;rw[ht2,ht,Int.toNat_natCast,Int.toNat_natCast];exact⟨rfl,rfl⟩
 rw[ht2] at hR
 rw[ht] at hN hR
 clear ht ht2 e1
 generalize x+lcp (a.drop x) (b.drop y)=x1 at *
 generalize y+lcp (a.drop x) (b.drop y)=y1 at *
 walk_at "D"
 obtain⟨i,hi⟩: ∃i:Nat,(off:Int)+p=i:=⟨((off:Int)+p).toNat,by exact Int.le_antisymm (yR 23319024718555941762083 rfl (Int.toNat_of_nonneg (yR 2604975627321475961782825 rfl hd h1))) (yR 2543925548432564952610 rfl (Int.toNat_of_nonneg (yR 2604975627321475961782825 rfl hd h1)))⟩
 refine⟨l1,(off:Int)+p,_,i,rfl,rfl,by unfold tiny;exact⟨yR 174826519772184709826221125410339 rfl hi,yR 44176191044181383554539181903589079603967165000 rfl ho hd h2⟩,hm,?_,n5 _ ?_⟩
 ·rw[zhi,hi];exact zlh (by exact za6 23773695456255819188781533320774185 rfl hd h2 hi)
 rw[zzf hi (by exact za6 23773695456255819188781533320774185 rfl hd h2 hi),hf]
 have mx:zi5 l1 l2 m (upd m l1 (.list (vl off (step a b d p T).f))):=fun a o h _ e=>by rw[upn _ _ h];exact e
 exact z05 (by rw[upn _ _ (Ne.symm hne)];exact hm2) ho hp (fun {i j} ei ej c u22 u23=>by
  obtain rfl:=ei.trans hS.1.symm
  obtain rfl:=ej.trans hS.2.symm
  exact hN c _ _ _ _ _ _ (ups _ _ _) (by rw[upn _ _ (Ne.symm hne)];exact hm2) mx) (fun c loc=>hR c _ loc mx) (hs _ mx)
end
theorem zmw {α:Type} (xs:List α) {x:Nat} (h:x<xs.reverse.length):zH xs (-(x:Int)-1)=some xs.reverse[x]:=by
 have h':x<xs.length:=by rw[List.length_reverse] at h;exact h
 unfold zH
 have:seqIndex? (-(x:Int)-1) xs.length=some (xs.length-1-x):=by
  unfold seqIndex?
  have e:(if -(x:Int)-1<0 then -(x:Int)-1+xs.length else -(x:Int)-1)=((xs.length-1-x:Nat):Int):=by rw[if_pos (by exact zw 268953137 rfl)];exact Int.le_antisymm (zP 371287417379027283742222844370223659 rfl (Nat.sub_add_cancel (zc 4982632415785 rfl h')) (Nat.sub_add_cancel (zf 80321163501702457393705 rfl h' (Nat.sub_add_cancel (zc 4982632415785 rfl h'))))) (zP 205262101112877700934674482208969770 rfl (Nat.sub_add_cancel (zc 4982632415785 rfl h')) (Nat.sub_add_cancel (zf 80321163501702457393705 rfl h' (Nat.sub_add_cancel (zc 4982632415785 rfl h')))))
  simp only[e]
  rw[if_pos (by simp;exact zP 44167777895103762607903786 rfl (Nat.sub_add_cancel (zc 4982632415785 rfl h')) (Nat.sub_add_cancel (zf 80321163501702457393705 rfl h' (Nat.sub_add_cancel (zc 4982632415785 rfl h')))))];simp
 rw[this,List.getElem_reverse]
 exact List.getElem?_eq_getElem (by exact zP 44167777895103762607903786 rfl (Nat.sub_add_cancel (zc 4982632415785 rfl h')) (Nat.sub_add_cancel (zf 80321163501702457393705 rfl h' (Nat.sub_add_cancel (zc 4982632415785 rfl h')))))
section
variable {P:PC}{Q:Fl→St→Prop}{s dl:V}{a b:Tx}{off:Nat}{l1 l2:Addr}{ks ke ks2 ke2:Nat}{d:Nat}{u18 u19 u20 u21 u22 u23 u24 u25:Option V}{m:Mem}{f g:Int→Int}
theorem z8a {p:Int}{x y:Nat} (hx:sma a.length) (hy:sma b.length) (h:Q .next (bsS s a b dl off l1 l2 ks ke ks2 ke2 d u18 u19 u20 u21 u22 (some (.int ((x+lcp (a.reverse.drop x) (b.reverse.drop y):Nat):Int))) (some (.int p)) (some (.int ((y+lcp (a.reverse.drop x) (b.reverse.drop y):Nat):Int))) m)):
  wpS P (.whl (.band [.cmp (.var 23) [.Lt] [.var 4],.cmp (.var 25) [.Lt] [.var 5],.cmp (.idx (.var 1) (.bin .Sub (.neg (.var 23)) (.lit (.int 1)))) [.Eq] [.idx (.var 2) (.bin .Sub (.neg (.var 25)) (.lit (.int 1)))]]) zbo) Q (bsS s a b dl off l1 l2 ks ke ks2 ke2 d u18 u19 u20 u21 u22 (some (.int x)) (some (.int p)) (some (.int y)) m):=by
 refine⟨IW (lcp (a.reverse.drop x) (b.reverse.drop y)) fun t=>bsS s a b dl off l1 l2 ks ke ks2 ke2 d u18 u19 u20 u21 u22 (some (.int ((x+t:Nat):Int))) (some (.int p)) (some (.int ((y+t:Nat):Int))) m,⟨_,0,Nat.zero_le _,rfl,rfl⟩,?_⟩
 rintro n σ ⟨t,ht,rfl,rfl⟩
 have ea:a.reverse.length=a.length:=List.length_reverse
 have eb:b.reverse.length=b.length:=List.length_reverse
 have stop:=(zje a.reverse b.reverse x y).stop
 have iff:=yU (t+1) (a.reverse.drop x) (b.reverse.drop y)
 have ga:=fun h=>zmw a (x:=x+t) h
 have gb:=fun h=>zmw b (x:=y+t) h
 have hl:=zV (a.reverse.drop x) (b.reverse.drop y)
 rw[List.length_drop,List.length_drop,ea,eb] at hl
 unfold zbo
 walk_at "D"
 have out: ¬t<lcp (a.reverse.drop x) (b.reverse.drop y)→Q .next (bsS s a b dl off l1 l2 ks ke ks2 ke2 d u18 u19 u20 u21 u22 (some (.int ((x+t:Nat):Int))) (some (.int p)) (some (.int ((y+t:Nat):Int))) m):=fun q=>by
  have:t=lcp (a.reverse.drop x) (b.reverse.drop y):=Nat.le_antisymm ht (Nat.le_of_not_lt q)
  rw[this];exact h
 by_cases c1:x+t<a.length
 ·refine yV (Int.ofNat_lt.mpr c1) ?_
  by_cases c2:y+t<b.length
  ·have c1':x+t<a.reverse.length:=by rw[ea];exact c1
   have c2':y+t<b.reverse.length:=by rw[eb];exact c2
   refine yV (Int.ofNat_lt.mpr c2) ⟨by unfold sma at hx;unfold tiny;exact⟨zf 23773909580435348416950349065449509320884045742632 rfl hx c1,zc 18709344649311234862868017 rfl⟩,_,ga c1',by unfold sma at hy;unfold tiny;(clear ht hl out;lia),_,gb c2',?_⟩
   have key:t<lcp (a.reverse.drop x) (b.reverse.drop y)↔a.reverse[x+t]=b.reverse[y+t]:=by
    constructor
    ·intro q
     have e:=(iff (ntr q (zV _ _).1) (ntr q (zV _ _).2)).mp q
     have:=congrArg (fun l=>l[t]?) e
     simp only[List.getElem?_take,List.getElem?_drop] at this
     rw[if_pos (Nat.lt_succ_self t),if_pos (Nat.lt_succ_self t),List.getElem?_eq_getElem c1',List.getElem?_eq_getElem c2'] at this
     exact Option.some.inj this
    ·intro e
     refine Nat.lt_of_not_le fun q=>?_
     have e2:t=lcp (a.reverse.drop x) (b.reverse.drop y):=Nat.le_antisymm ht q
     subst e2
     exact stop c1' c2' e
   by_cases c3:t<lcp (a.reverse.drop x) (b.reverse.drop y)
   ·refine yV (by rw[key.mp c3]) ?_
    exact⟨_,Nat.sub_lt_sub_left c3 (Nat.lt_succ_self t),t+1,c3,rfl,rfl⟩
   ·exact zb6 (fun q=>c3 (key.mpr (by simpa using q))) (out c3)
  ·exact zb6 (fun q=>c2 (Int.ofNat_lt.mp q)) (out fun q=>c2 (Nat.add_lt_of_lt_sub' (Nat.lt_of_lt_of_le q hl.2)))
 ·exact zb6 (fun q=>c1 (Int.ofNat_lt.mp q)) (out fun q=>c1 (Nat.add_lt_of_lt_sub' (Nat.lt_of_lt_of_le q hl.1)))
theorem zy0 {p:Int} (hm:m l2=some (.list (vl off f))) (ho:off≤1000) (ho2:2≤off) (hd:d<off) (h1:-(d:Int)≤p) (h2:p≤d)
  (h:Q .next (bsS s a b dl off l1 l2 ks ke ks2 ke2 d u18 u19 u20 u21 (some (.int ((off:Int)+p))) (some (.int (pick d p f))) (some (.int p)) u25 m)):
  wpS P (.ife (.bor [.cmp (.var 24) [.Eq] [.neg (.var 17)],.band [.cmp (.var 24) [.NotEq] [.var 17],.cmp (.idx (.var 10) (.bin .Sub (.var 22) (.lit (.int 1)))) [.Lt] [.idx (.var 10) (.bin .Add (.var 22) (.lit (.int 1)))]]]) [
   .assign [.var 23] (.idx (.var 10) (.bin .Add (.var 22) (.lit (.int 1))))] [
   .assign [.var 23] (.bin .Add (.idx (.var 10) (.bin .Sub (.var 22) (.lit (.int 1)))) (.lit (.int 1)))]) Q
   (bsS s a b dl off l1 l2 ks ke ks2 ke2 d u18 u19 u20 u21 (some (.int ((off:Int)+p))) u23 (some (.int p)) u25 m):=by
 refine zi fun K kt kf=>?_
 have yes: ∀(_:pick d p f=f (p+1)) (_:p+1<off),K true (bsS s a b dl off l1 l2 ks ke ks2 ke2 d u18 u19 u20 u21 (some (.int ((off:Int)+p))) u23 (some (.int p)) u25 m):=fun e q=>kt _ (by
  walk_at "D"
  rw[e] at h
  exact zd4 hm (k:=p+1) (by exact Int.le_antisymm (zbm 36938591248295896112 rfl) (zbm 36930054640025793584 rfl)) (by exact yR 154932870914035706428457513 rfl hd h1) q ho h)
 have no: ∀(_:pick d p f=f (p-1)+1) (_:-(off:Int)≤p-1),K false (bsS s a b dl off l1 l2 ks ke ks2 ke2 d u18 u19 u20 u21 (some (.int ((off:Int)+p))) u23 (some (.int p)) u25 m):=fun e q=>kf _ (by
  walk_at "D"
  rw[e] at h
  exact zd4 hm (k:=p-1) (by exact Int.le_antisymm (zbm 36943094847923267120 rfl) (zbm 36930055189785801776 rfl)) q (by exact yR 2986899998541986885337641 rfl hd h2) ho h)
 clear h kt kf
 walk_at "D"
 by_cases c1:p=-(d:Int)
 ·exact z0a c1 (yes (if_pos (.inl c1)) (by exact yR 4552384568943560653611048 rfl ho2 c1))
 ·refine z5x c1 ?_
  by_cases c2:p=(d:Int)
  ·exact zct c2 (no (if_neg (by rintro (q | q);exact c1 q;exact q.1 c2)) (by exact yR 19368822473543580366479400 rfl ho2 c2))
  ·refine zef c2 (zd4 hm (k:=p-1) (by exact Int.le_antisymm (zbm 36943094847923267120 rfl) (zbm 36930055189785801776 rfl)) (by exact yR 154951760379967185009312297 rfl hd h1) (by exact yR 2986899998541986885337641 rfl hd h2) ho (zd4 hm (k:=p+1) (by exact Int.le_antisymm (zbm 36938591248295896112 rfl) (zbm 36930054640025793584 rfl)) (by exact yR 154932870914035706428457513 rfl hd h1) (by lia) ho ?_))
   walk_at "D"
   by_cases c3:f (p-1)<f (p+1)
   ·rw[decide_eq_true c3];exact yes (if_pos (.inr ⟨c2,c3⟩)) (by grind)
   ·rw[decide_eq_false c3];exact no (if_neg (by rintro (q | q);exact c1 q;exact c3 q.2)) (by exact yR 154951760379967185009312297 rfl hd h1)
theorem z22 {p:Int}{x y:Nat} (hm:m l1=some (.list (vl off g))) (ho:off≤1000) (hp:p=(x:Int)-y) (hx:x≤a.length) (hy:y≤b.length)
  (hN: ¬Hit a.reverse b.reverse off g p x→∀u19 u20 u21 u23,Q .next (bsS s a b dl off l1 l2 ks ke ks2 ke2 d u18 u19 u20 u21 u22 u23 (some (.int p)) (some (.int y)) m))
  (hR:Hit a.reverse b.reverse off g p x→∀loc,P.meth "diff_bisectSplit" [s,.str a,.str b,.int (g ((a.length:Int)-b.length-p)),.int (g ((a.length:Int)-b.length-p)-((a.length:Int)-b.length-p)),dl] (fun r m'=>Q (.ret r) ⟨loc,m'⟩) m)
  (hs: ∃A dd fs,s= .obj A∧m A=some (.inst P.cls dd)∧m dd=some (.dict fs)∧yT "diff_bisectSplit" fs=none):
  zs P zan Q (bsS s a b dl off l1 l2 ks ke ks2 ke2 d u18 u19 u20 u21 u22 (some (.int x)) (some (.int p)) (some (.int y)) m):=by
 unfold Hit at hN hR
 rw[List.length_reverse,List.length_reverse] at hN hR
 have hlx:(x:Int)≤a.length:=Int.ofNat_le.mpr hx
 have hly:(x:Int)-p≤b.length:=by rw[hp];exact zf 23321048326212665541160 rfl hy
 unfold zan
 refine ssx fun Q1 n1=>?_
 walk_at "D"
 refine n1 _ (ssn (zi fun K kt kf=>?_))
 walk_at "D"
 by_cases c1:0≤(off:Int)+((a.length:Int)-b.length)-p
 ·refine yV c1 ?_
  by_cases c2:(off:Int)+((a.length:Int)-b.length)-p<2 * off
  ·refine yV c2 (zd4 hm (k:=(a.length:Int)-b.length-p) (by exact Int.le_antisymm (za6 22574563145042216640666117680 rfl) (za6 22574562290475180147871904816 rfl)) (by exact za6 1479446570283131820520734903697440 rfl c1) (by exact za6 311722742333569298731940934626813473 rfl c2) ho ?_)
   walk_at "D"
   by_cases c3:g ((a.length:Int)-b.length-p)=-1
   ·rw[decide_eq_true c3]
    exact kf _ (hN (fun q=>q.2.2.2.2.1 c3) _ _ _ _)
   ·rw[decide_eq_false c3]
    refine kt _ ?_
    unfold zd7
    refine ssx fun Q2 n2=>?_
    walk_at "D"
    refine zd4 hm (k:=(a.length:Int)-b.length-p) (by exact Int.le_antisymm (za6 22574563145042216640666117680 rfl) (za6 22574562290475180147871904816 rfl)) (by exact za6 1479446570283131820520734903697440 rfl c1) (by exact za6 311722742333569298731940934626813473 rfl c2) ho ?_
    refine n2 _ (ssx fun Q3 n3=>?_)
    walk_at "D"
    rw[show(off:Int)+g ((a.length:Int)-b.length-p)-((off:Int)+((a.length:Int)-b.length)-p)=g ((a.length:Int)-b.length-p)-((a.length:Int)-b.length-p) by exact Int.le_antisymm (z8x 189824644596227031962110929058375216 rfl) (z8x 188525302145662861360054192179779120 rfl)]
    refine n3 _ (ssx fun Q4 n4=>?_)
    walk_at "D"
    refine n4 _ (ssn (zi fun K' kt' kf'=>?_))
    walk_at "D"
    by_cases c4:(a.length:Int)-x≤g ((a.length:Int)-b.length-p)
    ·rw[decide_eq_true c4]
     refine kt' _ ?_
     walk_at "D"
     exact⟨hs,hR ⟨hlx,hly,by grind,by grind,c3,by exact yR 23319024999993127794208 rfl c4⟩ _⟩
    ·rw[decide_eq_false c4]
     exact kf' _ (hN (fun q=>by have:=q.2.2.2.2.2;exact yR 23319024991234829255205 rfl c4 q.2.2.2.2.2) _ _ _ _)
  ·exact zb6 c2 (kf _ (hN (fun q=>by have:=q.2.2.2.1;exact za6 311722742333493713020426946054400036 rfl c2 q.2.2.2.1) _ _ _ _))
 ·exact zb6 c1 (kf _ (hN (fun q=>by have:=q.2.2.1;exact za6 1479446570283057992802354294400549 rfl c1 q.2.2.1) _ _ _ _))
theorem z1m {p:Int}{x1 y1:Nat} (hm2:m l1=some (.list (vl off g))) (ho:off≤1000) (hp:p=(x1:Int)-(y1:Int))
  (hN: ∀{i j:Nat},i=ks' a.reverse b.reverse x1 y1 ks2→j=ke' a.reverse x1 ke2→¬((!zgo a b)=true∧Hit a.reverse b.reverse off g p x1)→∀u19 u20 u21 u22 u23 u25,Q .next (bsS s a b dl off l1 l2 ks ke i j d u18 u19 u20 u21 u22 u23 (some (.int p)) u25 m))
  (hR:(!zgo a b)=true∧Hit a.reverse b.reverse off g p x1→∀loc,P.meth "diff_bisectSplit" [s,.str a,.str b,.int (g ((a.length:Int)-b.length-p)),.int (g ((a.length:Int)-b.length-p)-((a.length:Int)-b.length-p)),dl] (fun r m'=>Q (.ret r) ⟨loc,m'⟩) m)
  (hs: ∃A dd fs,s= .obj A∧m A=some (.inst P.cls dd)∧m dd=some (.dict fs)∧yT "diff_bisectSplit" fs=none):
  zs P [.ife (.cmp (.var 23) [.Gt] [.var 4]) [.aug 16 .Add (.lit (.int 2))] [.ife (.cmp (.var 25) [.Gt] [.var 5]) [.aug 15 .Add (.lit (.int 2))] [.ife (.not (.var 12)) zan []]]] Q
   (bsS s a b dl off l1 l2 ks ke ks2 ke2 d u18 u19 u20 u21 u22 (some (.int x1)) (some (.int p)) (some (.int y1)) m):=by
 have hh:Hit a.reverse b.reverse off g p x1→x1≤a.length∧y1≤b.length:=fun q=>by
  have h1:=q.1;have h2:=q.2.1
  rw[List.length_reverse] at h1 h2
  exact⟨zc 316964332903968 rfl h1,za6 338129340399785015103679300130 rfl hp h2⟩
 refine ssn (zi fun K kt kf=>?_)
 walk_at "D"
 by_cases c1:a.length<x1
 ·rw[decide_eq_true (Int.ofNat_lt.mpr c1)]
  have r1:a.reverse.length<x1:=by rw[List.length_reverse];exact c1
  exact kt _ (hN (if_pos r1).symm (if_pos r1).symm (fun q=>absurd (hh q.2).1 (Nat.not_le_of_lt c1)) _ _ _ _ _ _)
 ·rw[decide_eq_false fun q=>c1 (Int.ofNat_lt.mp q)]
  have r1: ¬a.reverse.length<x1:=by rw[List.length_reverse];exact c1
  refine kf _ (ssn (zi fun K' kt' kf'=>?_))
  walk_at "D"
  by_cases c2:b.length<y1
  ·rw[decide_eq_true (Int.ofNat_lt.mpr c2)]
   have r2:b.reverse.length<y1:=by rw[List.length_reverse];exact c2
   exact kt' _ (hN ((if_neg r1).trans (if_pos r2)).symm (if_neg r1).symm (fun q=>absurd (hh q.2).2 (Nat.not_le_of_lt c2)) _ _ _ _ _ _)
  ·rw[decide_eq_false fun q=>c2 (Int.ofNat_lt.mp q)]
   have r2: ¬b.reverse.length<y1:=by rw[List.length_reverse];exact c2
   refine kf' _ (ssn (zi fun K2 kt2 kf2=>?_))
   walk_at "D"
   have hN:=hN ((if_neg r1).trans (if_neg r2)).symm (if_neg r1).symm
   suffices go: ∀t,zgo a b=t→K2 (!t) (bsS s a b dl off l1 l2 ks ke ks2 ke2 d u18 u19 u20 u21 u22 (some (.int x1)) (some (.int p)) (some (.int y1)) m) from go _ rfl
   intro t co
   cases t with
   | true=>exact kf2 _ (hN (fun q=>by rw[co] at q;cases q.1) _ _ _ _ _ _)
   | false=>exact kt2 _ (z22 hm2 ho hp (Nat.le_of_not_lt c1) (Nat.le_of_not_lt c2) (fun q u19 u20 u21 u23=>hN (fun z=>q z.2) _ _ _ _ _ _) (fun q loc=>hR ⟨by rw[co];rfl,q⟩ loc) hs)
theorem zzd {p:Int}{x y:Nat}{T:Tab} (hT:T.ks=ks2∧T.ke=ke2) (hm:m l2=some (.list (vl off T.f))) (hm2:m l1=some (.list (vl off g))) (hne:l1≠l2) (ho:off≤1000) (ho2:2≤off) (hd:d<off) (h1:-(d:Int)≤p) (h2:p≤d) (hx:sma a.length) (hy:sma b.length)
  (e1:pick d p T.f=x) (e2:p=(x:Int)-y)
  (hN: ¬((!zgo a b)=true∧Hit a.reverse b.reverse off g p (tx a.reverse b.reverse d p T.f))→∀m' u19 u20 u21 u22 u23 u25,m' l2=some (.list (vl off (step a.reverse b.reverse d p T).f))→m' l1=some (.list (vl off g))→zi5 l1 l2 m m'→
   Q .next (bsS s a b dl off l1 l2 ks ke (step a.reverse b.reverse d p T).ks (step a.reverse b.reverse d p T).ke d u18 u19 u20 u21 u22 u23 (some (.int p)) u25 m'))
  (hR:(!zgo a b)=true∧Hit a.reverse b.reverse off g p (tx a.reverse b.reverse d p T.f)→∀m' loc,zi5 l1 l2 m m'→P.meth "diff_bisectSplit" [s,.str a,.str b,.int (g ((a.length:Int)-b.length-p)),.int (g ((a.length:Int)-b.length-p)-((a.length:Int)-b.length-p)),dl] (fun r m'=>Q (.ret r) ⟨loc,m'⟩) m')
  (hs: ∀m',zi5 l1 l2 m m'→∃A dd fs,s= .obj A∧m' A=some (.inst P.cls dd)∧m' dd=some (.dict fs)∧yT "diff_bisectSplit" fs=none):
  zs P zai Q (bsS s a b dl off l1 l2 ks ke ks2 ke2 d u18 u19 u20 u21 u22 u23 (some (.int p)) u25 m):=by
 obtain⟨rfl,rfl⟩:=hT
 have ht:tx a.reverse b.reverse d p T.f=((x+lcp (a.reverse.drop x) (b.reverse.drop y):Nat):Int):=by
  unfold tx;rw[e1,show((x:Int)-p).toNat=y by exact Nat.le_antisymm (za6 180910915598726644797557241379 rfl e2 (Int.toNat_of_nonneg (yR 299579473643385324066 rfl e2))) (za6 338129340399785016752946741794 rfl e2 (Int.toNat_of_nonneg (yR 299579473643385324066 rfl e2))),Int.toNat_natCast];exact Int.le_antisymm (zc 317033342366768 rfl) (zc 347511210421808 rfl)
 have ht2:tx a.reverse b.reverse d p T.f-p=((y+lcp (a.reverse.drop x) (b.reverse.drop y):Nat):Int):=by rw[ht];exact Int.le_antisymm (za6 42271000652164888154993653283 rfl e2) (za6 2804914249259621151326011938 rfl e2)
 unfold zai
 refine ssx fun Q1 n1=>?_
 walk_at "D"
 refine n1 _ (ssx fun Q2 n2=>zy0 (f:=T.f) hm ho ho2 hd h1 h2 (n2 _ (ssx fun Q3 n3=>?_)))
 walk_at "D"
 rw[e1,show(x:Int)-p=(y:Int) by exact Int.le_antisymm (yR 23319024999993127794211 rfl e2) (yR 2396657840655343223330 rfl e2)]
 refine n3 _ (ssx fun Q4 n4=>z8a hx hy (n4 _ (ssx fun Q5 n5=>?_)))
 have hp:p=((x+lcp (a.reverse.drop x) (b.reverse.drop y):Nat):Int)-((y+lcp (a.reverse.drop x) (b.reverse.drop y):Nat):Int):=Int.le_antisymm (za6 42271038142489761479399244322 rfl e2) (za6 2806122564058985798748403235 rfl e2)
 have hf:up T.f p ((x+lcp (a.reverse.drop x) (b.reverse.drop y):Nat):Int)=(step a.reverse b.reverse d p T).f:=by rw[←ht];rfl
 have hS:(step a.reverse b.reverse d p T).ks=ks' a.reverse b.reverse (x+lcp (a.reverse.drop x) (b.reverse.drop y)) (y+lcp (a.reverse.drop x) (b.reverse.drop y)) T.ks∧(step a.reverse b.reverse d p T).ke=ke' a.reverse (x+lcp (a.reverse.drop x) (b.reverse.drop y)) T.ke:=by
  unfold step;rw[ht2,ht,Int.toNat_natCast,Int.toNat_natCast];exact⟨rfl,rfl⟩
 rw[ht] at hN hR
 clear ht ht2 e1
 generalize x+lcp (a.reverse.drop x) (b.reverse.drop y)=x1 at *
 generalize y+lcp (a.reverse.drop x) (b.reverse.drop y)=y1 at *
 walk_at "D"
 obtain⟨i,hi⟩: ∃i:Nat,(off:Int)+p=i:=⟨((off:Int)+p).toNat,by exact Int.le_antisymm (yR 23319024718555941762083 rfl (Int.toNat_of_nonneg (yR 2604975627321475961782825 rfl hd h1))) (yR 2543925548432564952610 rfl (Int.toNat_of_nonneg (yR 2604975627321475961782825 rfl hd h1)))⟩
 refine⟨l2,(off:Int)+p,_,i,rfl,rfl,by unfold tiny;exact⟨yR 174826519772184709826221125410339 rfl hi,yR 44176191044181383554539181903589079603967165000 rfl ho hd h2⟩,hm,?_,n5 _ ?_⟩
 ·rw[zhi,hi];exact zlh (by exact za6 23773695456255819188781533320774185 rfl hd h2 hi)
 rw[zzf hi (by exact za6 23773695456255819188781533320774185 rfl hd h2 hi),hf]
 have mx:zi5 l1 l2 m (upd m l2 (.list (vl off (step a.reverse b.reverse d p T).f))):=fun a o _ h e=>by rw[upn _ _ h];exact e
 exact z1m (by rw[upn _ _ hne];exact hm2) ho hp (fun {i j} ei ej c u19 u20 u21 u22 u23 u25=>by
  obtain rfl:=ei.trans hS.1.symm
  obtain rfl:=ej.trans hS.2.symm
  exact hN c _ _ _ _ _ _ _ (ups _ _ _) (by rw[upn _ _ hne];exact hm2) mx) (fun c loc=>hR c _ loc mx) (hs _ mx)
end
section
variable {P:PC}{Q:Fl→St→Prop}{s dl:V}{a b:Tx}{off:Nat}{l1 l2:Addr}{d:Nat}{f g:Int→Int}
noncomputable def zhh (P:PC) (s:V) (l1 l2:Addr) (m:Mem):Prop:= ∀m',zi5 l1 l2 m m'→∃A dd fs,s= .obj A∧m' A=some (.inst P.cls dd)∧m' dd=some (.dict fs)∧yT "diff_bisectSplit" fs=none
theorem zhh.ext {l1 l2:Addr}{m m':Mem} (h:zhh P s l1 l2 m) (x:zi5 l1 l2 m m'):zhh P s l1 l2 m':=fun m'' y=>h m'' (x.trans y)
theorem zpk {f0:Int→Int}{ks0 ke0 ks2 ke2:Nat} (Pf:Pre a b d f0 ks0 ke0) (hD:2 * d≤zm a b+1) (hne:l1≠l2) (ho:off≤1000) (ho2:2≤off) (hd:d<off) (hx:sma a.length) (hy:sma b.length):
  ∀(n:Nat) (p:Int) (T:Tab) (u18 u19 u20 u21 u22 u23 u24 u25:Option V) (m:Mem),Sw a b d f0 ks0 ke0 p T.f T.ks T.ke→(0<n→p+2 * n≤(d:Int)-ke0+2)→
  m l1=some (.list (vl off T.f))→m l2=some (.list (vl off g))→zhh P s l1 l2 m→
  (∀T' m' u18 u19 u20 u21 u22 u23 u24 u25,zfr a b off d (zgo a b) g n p T=(none,T')→m' l1=some (.list (vl off T'.f))→m' l2=some (.list (vl off g))→zi5 l1 l2 m m'→Q .next (bsS s a b dl off l1 l2 T'.ks T'.ke ks2 ke2 d u18 u19 u20 u21 u22 u23 u24 u25 m'))→
  (∀q T' m' loc,zfr a b off d (zgo a b) g n p T=(some q,T')→zi5 l1 l2 m m'→P.meth "diff_bisectSplit" [s,.str a,.str b,.int (T'.f q),.int (T'.f q-q),dl] (fun r m'=>Q (.ret r) ⟨loc,m'⟩) m')→
  zem (zkp P (.var 18)) (zs P zad) (fun _=>True) Q (zdf p 2 n) (bsS s a b dl off l1 l2 T.ks T.ke ks2 ke2 d u18 u19 u20 u21 u22 u23 u24 u25 m)
 | 0,p,T,u18,u19,u20,u21,u22,u23,u24,u25,m,S,hn,hm,hm2,hs,hN,hR=>⟨trivial,hN T m _ _ _ _ _ _ _ _ rfl hm hm2 (.refl _ _ _)⟩
 | n+1,p,T,u18,u19,u20,u21,u22,u23,u24,u25,m,S,hn,hm,hm2,hs,hN,hR=>by
  have hp:p≤(d:Int)-ke0:=by have:=hn (Nat.succ_pos n);exact za6 46431308453328748041718341310616608 rfl this
  refine bc fun z9=>?_
  obtain⟨x,y,x1,y1,e1,e2,e3,e4,e5,e6,S'⟩:=zov Pf hD S hp
  refine z9 ?_
  have hlo:=S.lo
  refine⟨trivial,?_⟩
  refine zxp (P:=P) (T:=T) ⟨rfl,rfl⟩ hm hm2 hne ho ho2 hd (by exact yR 18730681993477481504 rfl hlo) (by exact yR 540739860961100320 rfl hp) hx hy e1 e2 ?_ ?_ hs
  ·intro c m' v19 v20 v21 v22 v23 g1 g2 gx
   refine zpk Pf hD hne ho ho2 hd hx hy n (p+2) (step a b d p T) _ _ _ _ _ _ _ _ m' S' (fun q=>by have:=hn (Nat.succ_pos n);exact za6 46070768152017644193002433491240467078215373856 rfl this) g1 g2 (hs.ext gx) ?_ ?_
   ·intro T' m'' w18 w19 w20 w21 w22 w23 w24 w25 e h1 h2 hx2
    exact hN T' m'' _ _ _ _ _ _ _ _ ((zfz c).trans e) h1 h2 (gx.trans hx2)
   ·intro q T' m'' loc e hx2
    exact hR q T' m'' loc ((zfz c).trans e) (gx.trans hx2)
  ·intro c m' loc gx
   have:=hR p (step a b d p T) m' loc (zjq c) gx
   rw[zus] at this
   exact this
theorem zp3 {g0:Int→Int}{ks ke ks0 ke0:Nat} (Pb:Pre a.reverse b.reverse d g0 ks0 ke0) (hD:2 * d≤zm a b+1) (hne:l1≠l2) (ho:off≤1000) (ho2:2≤off) (hd:d<off) (hx:sma a.length) (hy:sma b.length):
  ∀(n:Nat) (p:Int) (T:Tab) (u18 u19 u20 u21 u22 u23 u24 u25:Option V) (m:Mem),Sw a.reverse b.reverse d g0 ks0 ke0 p T.f T.ks T.ke→(0<n→p+2 * n≤(d:Int)-ke0+2)→
  m l2=some (.list (vl off T.f))→m l1=some (.list (vl off f))→zhh P s l1 l2 m→
  (∀T' m' u18 u19 u20 u21 u22 u23 u24 u25,zfr a.reverse b.reverse off d (!zgo a b) f n p T=(none,T')→m' l2=some (.list (vl off T'.f))→m' l1=some (.list (vl off f))→zi5 l1 l2 m m'→Q .next (bsS s a b dl off l1 l2 ks ke T'.ks T'.ke d u18 u19 u20 u21 u22 u23 u24 u25 m'))→
  (∀q T' m' loc,zfr a.reverse b.reverse off d (!zgo a b) f n p T=(some q,T')→zi5 l1 l2 m m'→P.meth "diff_bisectSplit" [s,.str a,.str b,.int (f ((a.length:Int)-b.length-q)),.int (f ((a.length:Int)-b.length-q)-((a.length:Int)-b.length-q)),dl] (fun r m'=>Q (.ret r) ⟨loc,m'⟩) m')→
  zem (zkp P (.var 24)) (zs P zai) (fun _=>True) Q (zdf p 2 n) (bsS s a b dl off l1 l2 ks ke T.ks T.ke d u18 u19 u20 u21 u22 u23 u24 u25 m)
 | 0,p,T,u18,u19,u20,u21,u22,u23,u24,u25,m,S,hn,hm,hm2,hs,hN,hR=>⟨trivial,hN T m _ _ _ _ _ _ _ _ rfl hm hm2 (.refl _ _ _)⟩
 | n+1,p,T,u18,u19,u20,u21,u22,u23,u24,u25,m,S,hn,hm,hm2,hs,hN,hR=>by
  have hp:p≤(d:Int)-ke0:=by have:=hn (Nat.succ_pos n);exact za6 46431308453328748041718341310616608 rfl this
  refine bc fun z9=>?_
  obtain⟨x,y,x1,y1,e1,e2,e3,e4,e5,e6,S'⟩:=zov Pb (by rw[zp];exact hD) S hp
  refine z9 ?_
  have hlo:=S.lo
  refine⟨trivial,?_⟩
  refine zzd (P:=P) (T:=T) ⟨rfl,rfl⟩ hm hm2 hne ho ho2 hd (by exact yR 18730681993477481504 rfl hlo) (by exact yR 540739860961100320 rfl hp) hx hy e1 e2 ?_ ?_ hs
  ·intro c m' v19 v20 v21 v22 v23 v25 g1 g2 gx
   refine zp3 Pb hD hne ho ho2 hd hx hy n (p+2) (step a.reverse b.reverse d p T) _ _ _ _ _ _ _ _ m' S' (fun q=>by have:=hn (Nat.succ_pos n);exact za6 46070768152017644193002433491240467078215373856 rfl this) g1 g2 (hs.ext gx) ?_ ?_
   ·intro T' m'' w18 w19 w20 w21 w22 w23 w24 w25 e h1 h2 hx2
    exact hN T' m'' _ _ _ _ _ _ _ _ ((zfz c).trans e) h1 h2 (gx.trans hx2)
   ·intro q T' m'' loc e hx2
    exact hR q T' m'' loc ((zfz c).trans e) (gx.trans hx2)
  ·intro c m' loc gx
   exact hR p (step a.reverse b.reverse d p T) m' loc (zjq c) gx
theorem zwj {m:Mem}{a b c:Int}{K:List V→(Mem→Prop)→Prop} (ha:tiny a) (hb:tiny b) (hc:tiny c) (h0:0<c) (h:K (zs4 a b c) fun _=>True):yG m (.rng a b c) K:=⟨ha,hb,hc,h0,h⟩
theorem zj2 {d:Nat}{f:Int→Int}{ks ke:Nat} (Pf:Pre a b d f ks ke) (hd:d≤zm a b):ks≤2 * d∧ke≤2 * d:=by have:=Pf.some hd;exact⟨zf 2796985304588352118842400 rfl this,zf 2798165896209069530145824 rfl this⟩
noncomputable abbrev bsU (s:V) (a b:Tx) (dl:V) (off:Nat) (l1 l2:Addr) (S T:Tab) (u17 u18 u19 u20 u21 u22 u23 u24 u25:Option V) (m:Mem):St:=
 ⟨[some s,some (.str a),some (.str b),some dl,some (.int a.length),some (.int b.length),some (.int off),some (.int off),some (.int (2 * off)),some (.obj l1),some (.obj l2),some (.int ((a.length:Int)-b.length)),some (.bool (zgo a b)),
   some (.int S.ks),some (.int S.ke),some (.int T.ks),some (.int T.ke),u17,u18,u19,u20,u21,u22,u23,u24,u25],m⟩
theorem rg_t {d off k e:Nat} (ho:off≤1000) (hd:d<off) (h1:k≤2 * d) (h2:e≤2 * d):tiny (-(d:Int)+k)∧tiny ((d:Int)+1-e):=by
 unfold tiny
 refine⟨⟨?_,?_⟩,⟨?_,?_⟩⟩
 ·exact zf 97373785697159220610114240639661506560552 rfl ho hd
 ·exact zf 45236419629243138250894050118507385950939807482408 rfl ho hd h1
 ·exact zf 13381565584935289836353038646151845244529917999186472 rfl ho hd h2
 ·exact zf 5392601445823089849605636492678037824864808 rfl ho hd
theorem zm5 (hD2:2≤zm a b) (hne:l1≠l2) (ho:off≤1000) (ho2:2≤off) (hx:sma a.length) (hy:sma b.length):
  ∀(n d:Nat) (S T:Tab) (u17 u18 u19 u20 u21 u22 u23 u24 u25:Option V) (m:Mem),d+n=off→Pre a b d S.f S.ks S.ke→Pre a.reverse b.reverse d T.f T.ks T.ke→2 * d≤zm a b+1→
  m l1=some (.list (vl off S.f))→m l2=some (.list (vl off T.f))→zhh P s l1 l2 m→
  (∀S' T' m' u17 u18 u19 u20 u21 u22 u23 u24 u25,zwz a b off n d S T=none→zi5 l1 l2 m m'→Q .next (bsU s a b dl off l1 l2 S' T' u17 u18 u19 u20 u21 u22 u23 u24 u25 m'))→
  (∀u v m' (K:V→Mem→Prop),zwz a b off n d S T=some (u,v)→zi5 l1 l2 m m'→(∀r m',(∀loc,Q (.ret r) ⟨loc,m'⟩)→K r m')→P.meth "diff_bisectSplit" [s,.str a,.str b,.int u,.int v,dl] K m')→
  zem (zkp P (.var 17)) (zs P zb4) (fun _=>True) Q (zdf d 1 n) (bsU s a b dl off l1 l2 S T u17 u18 u19 u20 u21 u22 u23 u24 u25 m)
 | 0,d,S,T,u17,u18,u19,u20,u21,u22,u23,u24,u25,m,hn,Pf,Pb,hD,hm,hm2,hs,hN,hR=>⟨trivial,hN S T m _ _ _ _ _ _ _ _ _ rfl (.refl _ _ _)⟩
 | n+1,d,S,T,u17,u18,u19,u20,u21,u22,u23,u24,u25,m,hn,Pf,Pb,hD,hm,hm2,hs,hN,hR=>by
  have hd:d<off:=zf 9804838938652709930 rfl hn
  have hdD:d≤zm a b:=zc 649178122658326568 rfl hD
  refine⟨trivial,?_⟩
  unfold zb4
  show zs P [_,_] _ (bsS s a b dl off l1 l2 S.ks S.ke T.ks T.ke d u18 u19 u20 u21 u22 u23 u24 u25 m)
  refine za fun Q1 n1 r1=>?_
  walk_at "D"
  obtain⟨b1,b2⟩:=zj2 Pf hdD
  obtain⟨b3,b4⟩:=zj2 Pb (by rw[zp];exact hdD)
  have t2:tiny 2:=by walk_at "t"
  have rg: ∀(k e:Nat),k≤2 * d→e≤2 * d→tiny (-(d:Int)+k)∧tiny ((d:Int)+1-e):=fun k e=>rg_t ho hd
  have rl: ∀(k e:Nat),zs4 (-(d:Int)+k) ((d:Int)+1-e) 2=zdf (-(d:Int)+k) 2 (zsl (-(d:Int)+k) ((d:Int)-e)):=fun k e=>by
   unfold zs4 zsl;rw[show(d:Int)+1-e=(d:Int)-e+1 by exact Int.le_antisymm (zc 2383957777964239136304 rfl) (zc 2916895712620386432048 rfl)]
  have hF:=zl6 (off:=off) Pf Pb hD hD2 hd
  have en: ∀{x:Tx} {y:Tx} {F:Tab},Pre x y d F.f F.ks F.ke→d≤zm x y→-(d:Int)+F.ks+2 * (zsl (-(d:Int)+F.ks) ((d:Int)-F.ke):Nat)≤(d:Int)-F.ke+2:=fun {x y F} PP h=>by
   exact Int.le_of_eq (zpm (PP.some h) (z0l PP.ev.1 PP.ev.2))
  refine⟨(rg _ _ b1 b2).1,(rg _ _ b1 b2).2,t2,by decide,zwj (rg _ _ b1 b2).1 (rg _ _ b1 b2).2 t2 (by decide) ?_⟩
  rw[rl]
  refine zpk (f0:=S.f) Pf hD hne ho ho2 hd hx hy _ _ S u18 u19 u20 u21 u22 u23 u24 u25 m (Sw.start Pf) (fun _=>en Pf hdD) hm hm2 hs ?_ ?_
  ·intro S' m1 v18 v19 v20 v21 v22 v23 v24 v25 e g1 g2 gx
   have e:zfa a b off d S T=(none,S'):=e
   rw[e] at hF
   obtain⟨q1,q2,q3,q4⟩:=hF
   have hB:=zmh (off:=off) q2 q3 Pb q4 hD2 hd
   refine n1 _ (za fun Q2 n2 r2=>?_)
   walk_at "D"
   refine⟨(rg _ _ b3 b4).1,(rg _ _ b3 b4).2,t2,by decide,zwj (rg _ _ b3 b4).1 (rg _ _ b3 b4).2 t2 (by decide) ?_⟩
   rw[rl]
   refine zp3 (g0:=T.f) Pb hD hne ho ho2 hd hx hy _ _ T v18 v19 v20 v21 v22 v23 v24 v25 m1 (Sw.start Pb) (fun _=>en Pb (by rw[zp];exact hdD)) g2 g1 (hs.ext gx) ?_ ?_
   ·intro T' m2 w18 w19 w20 w21 w22 w23 w24 w25 e' h2 h1 hx2
    have e':zfu a b off d S' T=(none,T'):=e'
    rw[e'] at hB
    have eG:zwz a b off (n+1) d S T=zwz a b off n (d+1) S' T':=by
     show(match zfa a b off d S T with | (some p,s')=>_ | (none,s')=>_)=_
     rw[e]
     show(match zfu a b off d S' T with | (some p,s')=>_ | (none,s')=>_)=_
     rw[e']
    refine n2 _ (zd ?_)
    have:=zm5 hD2 hne ho ho2 hx hy n (d+1) S' T' (some (.int d)) w18 w19 w20 w21 w22 w23 w24 w25 m2 (by exact Nat.le_antisymm (zf 10318666282764277363250218 rfl hn) (zf 10313990821270913238565419 rfl hn)) q1 hB.1 hB.2 h1 h2 (hs.ext (gx.trans hx2))
     (fun S2 T2 m' a17 a18 a19 a20 a21 a22 a23 a24 a25 z zx=>hN S2 T2 m' _ _ _ _ _ _ _ _ _ (eG.trans z) ((gx.trans hx2).trans zx))
     (fun u v m' K z zx=>hR u v m' K (eG.trans z) ((gx.trans hx2).trans zx))
    exact this
   ·intro q T' m2 loc e' hx2
    have e':zfu a b off d S' T=(some q,T'):=e'
    refine hR _ _ m2 _ ?_ (gx.trans hx2) fun r m' h=>r2 _ _ (h loc)
    show(match zfa a b off d S T with | (some p,s')=>_ | (none,s')=>_)=_
    rw[e]
    show(match zfu a b off d S' T with | (some p,s')=>_ | (none,s')=>_)=_
    rw[e']
  ·intro q S' m1 loc e gx
   have e:zfa a b off d S T=(some q,S'):=e
   refine hR _ _ m1 _ ?_ gx fun r m' h=>r1 _ _ (h loc)
   show(match zfa a b off d S T with | (some p,s')=>_ | (none,s')=>_)=_
   rw[e]
end
structure Tz where
 z:Int
 x:Option (Addr×Pos×Str)
noncomputable def TZ (P:PC) (z:Tz) (m:Mem) (t:Addr):Prop:= ∃dd fs,m t=some (.inst P.cls dd)∧m dd=some (.dict fs)∧(∀n,zge n=true→yT n fs=none)∧yT "Diff_Timeout" fs=some (.int z.z)∧∀a p q,z.x=some (a,p,q)→m a=some (.tab p q)
theorem TZ.tool {P:PC}{z:Tz}{m:Mem}{t:Addr} (h:TZ P z m t):zd6 P m t:=let ⟨dd,fs,a,b,c,_⟩:=h;⟨dd,fs,a,b,c⟩
theorem TZ.gr {P:PC}{z:Tz}{m m':Mem}{t:Addr} (h:TZ P z m t) (g:Gr m m'):TZ P z m' t:=let ⟨dd,fs,a,b,c,d,e⟩:=h;⟨dd,fs,g _ _ a,g _ _ b,c,d,fun a p q h=>g _ _ (e a p q h)⟩
theorem TZ.ext {P:PC}{z:Tz}{m m':Mem}{t d:Addr} (h:TZ P z m t) (hd: ∃l,m d=some (.list l)) (x:Ext d m m'):TZ P z m' t:=by
 obtain⟨dd,fs,h1,h2,h3,h4,h5⟩:=h
 obtain⟨l,hl⟩:=hd
 refine⟨dd,fs,x _ _ (fun q=>?_) h1,x _ _ (fun q=>?_) h2,h3,h4,fun a p q e=>x _ _ (fun z=>?_) (h5 a p q e)⟩
 ·rw[q,hl] at h1;cases h1
 ·rw[q,hl] at h2;cases h2
 ·have:=h5 a p q e
  rw[z,hl] at this;cases this
theorem zbr {P:PC}{z:Tz}{m:Mem}{t:Addr}{n:String}{v:V}{K:V→Prop} (h:TZ P z m t) (hf:zge n=true) (hc:P.cc n=some v) (q:K v):ziy P m (.obj t) n K:=zfq h.tool hf hc q
theorem zbe {P:PC}{z:Tz}{m:Mem}{t:Addr}{n:String} (h:TZ P z m t) (hf:zge n=true): ∃a d fs,V.obj t= .obj a∧m a=some (.inst P.cls d)∧m d=some (.dict fs)∧yT n fs=none:=zr2 h.tool hf
theorem vl0 (off:Nat) (h:2≤off):(List.replicate (2 * off) (V.int (-1))).set (off+1) (.int 0)=vl off tab0.f:=by
 apply List.ext_getElem?
 intro j
 by_cases hj:j<2 * off
 ·rw[zxs hj]
  by_cases e:off+1=j
  ·subst e
   rw[List.getElem?_set_self (by rw[List.length_replicate];exact hj),show(((off+1:Nat):Int)-off)=1 by exact Int.le_antisymm (zw 35249065391664 rfl) (zw 8280742760496 rfl)];rfl
  ·rw[List.getElem?_set_ne e,List.getElem?_replicate,if_pos hj]
   show _=some (V.int (if (j:Int)-off=1 then 0 else -1))
   rw[if_neg (by grind)]
 ·rw[List.getElem?_eq_none (by rw[List.length_set,List.length_replicate];exact Nat.le_of_not_lt ‹_›),List.getElem?_eq_none (by rw[zhi];exact zc 81146217358239788 rfl hj)]
theorem zxh {α:Type} (xs:List α):zcq xs none none=xs:=by unfold zcq zfp zh3;exact List.take_of_length_le (by simp)
theorem zsa (n:Nat):zs4 0 n 1=zdf (0:Nat) 1 n:=by
 unfold zs4 Builtin.Range.rangeSize
 rw[if_pos (by decide)]
 have:(if (0:Int)<(n:Int) then((n:Int)-0-1)/1+1 else 0).toNat=n:=by split<;>grind
 rw[this];rfl
theorem z5f (x:Int):(!decide (x%2=0))=decide (x%2≠0):=by rw[decide_not]
section
variable {P:PC}{Q:V→Mem→Prop}{t:Addr}{dl:V}{a b:Tx}{m:Mem}{z:Tz}
set_option maxHeartbeats 2000000 in
theorem zw9 (cD:P.cc "DIFF_DELETE"=some (.int (-1))) (cI:P.cc "DIFF_INSERT"=some (.int 1)) (hT:TZ P z m t) (hD2:2≤zm a b) (hab:a.length+b.length≤1000) (ho2:2≤zel a b)
  (hN:bis a b=none→∀m' r,Gr m m'→m r=none→m' r=some (.list (rv [(-1,a),(1,b)]))→Q (.obj r) m')
  (hR: ∀u v m' (K:V→Mem→Prop),bis a b=some (u,v)→Gr m m'→(∀r m',Q r m'→K r m')→P.meth "diff_bisectSplit" [.obj t,.str a,.str b,.int u,.int v,dl] K m'):
  zs P yL (fun fl σ'=>Q (retV fl) σ'.mem) ⟨[.obj t,.str a,.str b,dl].map some++List.replicate 22 none,m⟩:=by
 have hsa:sma a.length:=ntr (ntr (Nat.le_add_right _ _) hab) (by decide)
 have hsb:sma b.length:=ntr (ntr (Nat.le_add_left _ _) hab) (by decide)
 have ho:zel a b≤1000:=by unfold zel;exact zf 169310764252603737002181579381081117736 rfl hab (Nat.div_mul_le_self _ _)
 have h2o:2 * zel a b≤1000000:=ntr (Nat.mul_le_mul_left 2 ho) (by decide)
 show zs P _ _ ⟨[some (.obj t),some (.str a),some (.str b),some dl,none,none,none,none,none,none,none,none,none,none,none,none,none,none,none,none,none,none,none,none,none,none],m⟩
 unfold yL
 refine za fun Q1 n1 r1=>?_
 walk_at "D"
 refine⟨hsa,n1 _ (za fun Q2 n2 r2=>?_)⟩
 walk_at "D"
 refine⟨hsb,n2 _ (za fun Q3 n3 r3=>?_)⟩
 walk_at "D"
 refine⟨by decide,by walk_at "t",n3 _ (za fun Q4 n4 r4=>?_)⟩
 rw[show((a.length:Int)+b.length+1)/2=(zel a b:Int) by unfold zel;rfl]
 walk_at "D"
 refine n4 _ (za fun Q5 n5 r5=>?_)
 walk_at "D"
 refine⟨by walk_at "t",n5 _ (za fun Q6 n6 r6=>?_)⟩
 walk_at "D"
 intro l0 hl0
 refine⟨_,ups _ _ _,by exact tiny_n (zw 151810819217875668406633032 rfl ho),h2o,fun l1 hl1=>n6 _ (za fun Q7 n7 r7=>?_)⟩
 walk_at "D"
 rw[show((2:Int) * (zel a b:Int)).toNat=2 * zel a b by rfl]
 refine⟨l1,_,_,zel a b+1,rfl,rfl,by exact tiny_n (zw 636740726353535913763634271037480 rfl h2o),ups _ _ _,?_,n7 _ (za fun Q8 n8 r8=>?_)⟩
 ·rw[List.length_replicate,show((zel a b:Int)+1)=((zel a b+1:Nat):Int) from rfl];exact zlh (by exact zw 83351820906340392 rfl ho2)
 rw[vl0 _ ho2]
 have g1:Gr m (upd (upd (upd m l0 (.list [.int (-1)])) l1 (.list (List.replicate (2 * zel a b) (.int (-1))))) l1 (.list (vl (zel a b) tab0.f))):=by
  rw[zu2];exact(Gr.new hl0 _).set (by
   have h1:(upd m l0 (.list [.int (-1)])) l1=none:=hl1
   by_cases e:l1=l0
   ·subst e;exact hl0
   ·rwa [upn _ _ e] at h1) _
 have h1:(upd (upd (upd m l0 (.list [.int (-1)])) l1 (.list (List.replicate (2 * zel a b) (.int (-1))))) l1 (.list (vl (zel a b) tab0.f))) l1=some (.list (vl (zel a b) tab0.f)):=ups _ _ _
 have hl1':m l1=none:=by
  cases z:m l1 with
  | none=>rfl
  | some o=>
   have:=(Gr.new hl0 (.list [.int (-1)])) l1 o z
   rw[show upd m l0 (.list [.int (-1)]) l1=none from hl1] at this;cases this
 generalize upd (upd (upd m l0 (.list [.int (-1)])) l1 (.list (List.replicate (2 * zel a b) (.int (-1))))) l1 (.list (vl (zel a b) tab0.f))=m1 at g1 h1 ⊢
 walk_at "D"
 refine⟨_,.inl h1,by rw[zhi];exact h2o,fun l2 hl2=>n8 _ ?_⟩
 rw[show z3u (vl (zel a b) tab0.f) none none none=vl (zel a b) tab0.f from zxh _]
 have hne:l1≠l2:=fun e=>by subst e;rw[show m1 l1=none from hl2] at h1;exact(Option.some_ne_none _ h1.symm).elim
 have h2:upd m1 l2 (.list (vl (zel a b) tab0.f)) l2=some (.list (vl (zel a b) tab0.f)):=ups _ _ _
 have h1':upd m1 l2 (.list (vl (zel a b) tab0.f)) l1=some (.list (vl (zel a b) tab0.f)):=by rw[upn _ _ hne];exact h1
 have g2:Gr m (upd m1 l2 (.list (vl (zel a b) tab0.f))):=g1.trans (Gr.new hl2 _)
 have hl2':m l2=none:=by
  cases z:m l2 with
  | none=>rfl
  | some o=>have:=g1 l2 o z;rw[show m1 l2=none from hl2] at this;cases this
 generalize upd m1 l2 (.list (vl (zel a b) tab0.f))=m2 at h2 h1' g2 ⊢
 have gx: ∀m',zi5 l1 l2 m2 m'→Gr m m':=fun m' x c o e=>x c o (fun q=>by subst q;rw[hl1'] at e;exact(Option.some_ne_none _ e.symm).elim) (fun q=>by subst q;rw[hl2'] at e;exact(Option.some_ne_none _ e.symm).elim) (g2 c o e)
 refine za fun Q9 n9 r9=>?_
 walk_at "D"
 refine n9 _ (za fun Q10 n10 r10=>?_)
 walk_at "D"
 refine⟨by decide,?_⟩
 rw[z5f]
 refine n10 _ (za fun Q11 n11 r11=>?_)
 walk_at "D"
 refine n11 _ (za fun Q12 n12 r12=>?_)
 walk_at "D"
 refine n12 _ (za fun Q13 n13 r13=>?_)
 walk_at "D"
 refine n13 _ (za fun Q14 n14 r14=>?_)
 walk_at "D"
 refine n14 _ (za fun Q15 n15 r15=>?_)
 walk_at "D"
 refine⟨by exact tiny_n (zw 621817115516559372452351780904 rfl h2o),by walk_at "t",by walk_at "t",by walk_at "t",by decide,?_⟩
 rw[zsa]
 refine zm5 hD2 hne ho ho2 hsa hsb (zel a b) 0 tab0 tab0 none none none none none none none none none m2 (Nat.zero_add _) (z68 a b) (z68 _ _) (Nat.zero_le _) h1' h2 ?_ ?_ ?_
 ·exact fun m' x=>zbe (hT.gr (gx m' x)) rfl
 ·intro S' T' m' u17 u18 u19 u20 u21 u22 u23 u24 u25 e x
  refine n15 _ (ssn ?_)
  walk_at "D"
  have hT':=hT.gr (gx m' x)
  refine zbr hT' rfl cD (zbr hT' rfl cI fun r hr=>hN e _ r ((gx m' x).trans (Gr.new hr _)) ((gx m' x).fresh hr) (ups _ _ _))
 ·exact fun u v m' K e x h=>hR u v m' K e (gx m' x) fun r m' q=>h r m' fun loc=>r15 _ _ q
end
noncomputable def zbk:List Str:=["self","text1","text2","checklines","deadline"]
noncomputable def zam:List Str:=["commonlength","commonprefix","commonsuffix","diffs"]
noncomputable def zd0:List (Str×NameKind):=[]
noncomputable def zdx:List Str:=[]
noncomputable def zgm:List Sm:=[
  .ife (.var 1) [
   .ret (.list [.tup [.attr (.var 0) "DIFF_EQUAL",.var 1]])] [],
  .ret (.list [])]
noncomputable def zf0:List Sm:=[
  .assign [.var 7] (.slc (.var 1) (.neg (.var 5)) (.lit .none) (.lit .none)),
  .assign [.var 1] (.slc (.var 1) (.lit .none) (.neg (.var 5)) (.lit .none)),
  .assign [.var 2] (.slc (.var 2) (.lit .none) (.neg (.var 5)) (.lit .none))]
noncomputable def zap:List Sm:=[
  .ife (.bor [.cmp (.var 1) [.Eq] [.lit .none],.cmp (.var 2) [.Eq] [.lit .none]]) [
   .junk] [],
  .ife (.cmp (.var 1) [.Eq] [.var 2]) zgm [],
  .assign [.var 5] (.imeth (.var 0) "diff_commonPrefix" [.var 1,.var 2]),
  .assign [.var 6] (.slc (.var 1) (.lit .none) (.var 5) (.lit .none)),
  .assign [.var 1] (.slc (.var 1) (.var 5) (.lit .none) (.lit .none)),
  .assign [.var 2] (.slc (.var 2) (.var 5) (.lit .none) (.lit .none)),
  .assign [.var 5] (.imeth (.var 0) "diff_commonSuffix" [.var 1,.var 2]),
  .ife (.cmp (.var 5) [.Eq] [.lit (.int 0)]) [
   .assign [.var 7] (.lit (.str []))] zf0,
  .assign [.var 8] (.imeth (.var 0) "diff_compute" [.var 1,.var 2,.var 3,.var 4]),
  .ife (.var 6) [
   .assign [.slc (.var 8) (.lit .none) (.lit (.int 0))] (.list [.tup [.attr (.var 0) "DIFF_EQUAL",.var 6]])] [],
  .ife (.var 7) [
   .expr (.me (.var 8) .append [.tup [.attr (.var 0) "DIFF_EQUAL",.var 7]])] [],
  .expr (.imeth (.var 0) "diff_cleanupMerge" [.var 8]),
  .ret (.var 8)]
noncomputable def yX:List Str:=["self","text1","text2","checklines","deadline"]
noncomputable def zZ:List Str:=["longtext","shorttext","i","diffs","hm","text1_a","text1_b","text2_a","text2_b","mid_common","diffs_a","diffs_b"]
noncomputable def zbt:List (Str×NameKind):=[("len",.globalImplicit)]
noncomputable def zb1:List Str:=[]
noncomputable def zdw:List Sm:=[
  .assign [.idx (.var 8) (.lit (.int 0))] (.tup [.attr (.var 0) "DIFF_DELETE",.idx (.idx (.var 8) (.lit (.int 0))) (.lit (.int 1))]),
  .assign [.idx (.var 8) (.lit (.int 2))] (.tup [.attr (.var 0) "DIFF_DELETE",.idx (.idx (.var 8) (.lit (.int 2))) (.lit (.int 1))])]
noncomputable def zbc:List Sm:=[
  .assign [.var 8] (.list [.tup [.attr (.var 0) "DIFF_INSERT",.slc (.var 5) (.lit .none) (.var 7) (.lit .none)],.tup [.attr (.var 0) "DIFF_EQUAL",.var 6],.tup [.attr (.var 0) "DIFF_INSERT",.slc (.var 5) (.bin .Add (.var 7) (.bi .len [.var 6])) (.lit .none) (.lit .none)]]),
  .ife (.cmp (.bi .len [.var 1]) [.Gt] [.bi .len [.var 2]]) zdw [],
  .ret (.var 8)]
noncomputable def zbb:List Sm:=[
  .assign [.tup [10,11,12,13,14]] (.var 9),
  .assign [.var 15] (.imeth (.var 0) "diff_main" [.var 10,.var 12,.var 3,.var 4]),
  .assign [.var 16] (.imeth (.var 0) "diff_main" [.var 11,.var 13,.var 3,.var 4]),
  .ret (.bin .Add (.bin .Add (.var 15) (.list [.tup [.attr (.var 0) "DIFF_EQUAL",.var 14]])) (.var 16))]
noncomputable def zY:List Sm:=[
  .ife (.not (.var 1)) [
   .ret (.list [.tup [.attr (.var 0) "DIFF_INSERT",.var 2]])] [],
  .ife (.not (.var 2)) [
   .ret (.list [.tup [.attr (.var 0) "DIFF_DELETE",.var 1]])] [],
  .ife (.cmp (.bi .len [.var 1]) [.Gt] [.bi .len [.var 2]]) [
   .assign [.tup [5,6]] (.tup [.var 1,.var 2])] [
   .assign [.tup [6,5]] (.tup [.var 1,.var 2])],
  .assign [.var 7] (.me (.var 5) .find [.var 6]),
  .ife (.cmp (.var 7) [.NotEq] [.neg (.lit (.int 1))]) zbc [],
  .ife (.cmp (.bi .len [.var 6]) [.Eq] [.lit (.int 1)]) [
   .ret (.list [.tup [.attr (.var 0) "DIFF_DELETE",.var 1],.tup [.attr (.var 0) "DIFF_INSERT",.var 2]])] [],
  .assign [.var 9] (.imeth (.var 0) "diff_halfMatch" [.var 1,.var 2]),
  .ife (.var 9) zbb [],
  .ife (.band [.var 3,.cmp (.bi .len [.var 1]) [.Gt] [.lit (.int 100)],.cmp (.bi .len [.var 2]) [.Gt] [.lit (.int 100)]]) [
   .junk] [],
  .ret (.imeth (.var 0) "diff_bisect" [.var 1,.var 2,.var 4])]
noncomputable def zI:List Str:=["self","text1","text2","x","y","deadline"]
noncomputable def zA:List Str:=["text1a","text2a","text1b","text2b","diffs","diffsb"]
noncomputable def zac:List (Str×NameKind):=[]
noncomputable def zak:List Str:=[]
noncomputable def z7:List Sm:=[
  .assign [.var 6] (.slc (.var 1) (.lit .none) (.var 3) (.lit .none)),
  .assign [.var 7] (.slc (.var 2) (.lit .none) (.var 4) (.lit .none)),
  .assign [.var 8] (.slc (.var 1) (.var 3) (.lit .none) (.lit .none)),
  .assign [.var 9] (.slc (.var 2) (.var 4) (.lit .none) (.lit .none)),
  .assign [.var 10] (.imeth (.var 0) "diff_main" [.var 6,.var 7,.lit (.bool false),.var 5]),
  .assign [.var 11] (.imeth (.var 0) "diff_main" [.var 8,.var 9,.lit (.bool false),.var 5]),
  .ret (.bin .Add (.var 10) (.var 11))]
theorem zq9 (A B:Row):rv A++rv B=rv (A++B):=by unfold rv;rw[List.map_append]
section
variable {P:PC}{Q:V→Mem→Prop}{t:Addr}{dl:V}{a b:Tx}{m:Mem}{H:Tx→Tx→Option HM→Prop}{z:Tz}
noncomputable def zpj (P:PC) (z:Tz) (H:Tx→Tx→Option HM→Prop) (t:Addr) (dl:V) (n:Nat):Prop:= ∀(a b:Tx) (m:Mem) (Q:V→Mem→Prop),a.length+b.length≤n→TZ P z m t→
 (∀m' r L,Gr m m'→m r=none→m' r=some (.list (rv L))→MainR H a b L→Q (.obj r) m')→P.meth "diff_main" [.obj t,.str a,.str b,.bool false,dl] Q m
theorem zq5 {H:Tx→Tx→Option HM→Prop}{a b:Tx}{L:Row}{n:Nat} (R:MainR H a b L) (h:a.length+b.length≤n) (hn:n≤40):sma (rv L).length:=by
 have G:=zaj R
 have p:=llp L
 have q:=zen G.n G.k
 rw[G.m,G.p] at q
 rw[z6];unfold sma;exact za9 367056038229086583797484967289133806977939000529992 rfl h hn p q
theorem z1d {x y n:Nat} (hM:zpj P z H t dl n) (hT:TZ P z m t) (hm:Meet a b x y) (hn:a.length+b.length≤n+1) (hs:n≤40)
  (h: ∀m' r L1 L2,Gr m m'→m r=none→m' r=some (.list (rv (L1++L2)))→MainR H (a.take x) (b.take y) L1→MainR H (a.drop x) (b.drop y) L2→Q (.obj r) m'):
  zs P z7 (fun fl σ'=>Q (retV fl) σ'.mem) ⟨[.obj t,.str a,.str b,.int x,.int y,dl].map some++List.replicate 6 none,m⟩:=by
 have hx:=hm.hx
 have hy:=hm.hy
 have hlo:=hm.lo
 have hhi:=hm.hi
 have k1:(a.take x).length+(b.take y).length≤n:=by rw[List.length_take_of_le hx,List.length_take_of_le hy];exact Nat.le_of_lt_succ (Nat.lt_of_lt_of_le hhi hn)
 have k2:(a.drop x).length+(b.drop y).length≤n:=by rw[List.length_drop,List.length_drop];exact zlw 6504624582213502259981149080434799741896556192207912 rfl hn hlo (Nat.sub_add_cancel (zc 4952567644712 rfl hx)) (Nat.sub_add_cancel (zc 4952567644712 rfl hy))
 have hsa:sma a.length:=ntr (ntr (Nat.le_add_right _ _) hn) (Nat.succ_le_succ (ntr hs (by decide)))
 have hsb:sma b.length:=ntr (ntr (Nat.le_add_left _ _) hn) (Nat.succ_le_succ (ntr hs (by decide)))
 show zs P _ _ ⟨[some (.obj t),some (.str a),some (.str b),some (.int x),some (.int y),some dl,none,none,none,none,none,none],m⟩
 unfold z7
 refine za fun Q1 n1 r1=>?_
 walk_at "D"
 refine⟨hsa,n1 _ (za fun Q2 n2 r2=>?_)⟩
 walk_at "D"
 refine⟨hsb,n2 _ (za fun Q3 n3 r3=>?_)⟩
 walk_at "D"
 refine⟨hsa,n3 _ (za fun Q4 n4 r4=>?_)⟩
 walk_at "D"
 refine⟨hsb,n4 _ (za fun Q5 n5 r5=>?_)⟩
 walk_at "D"
 rw[zco a hx,zco b hy,zJ a hx,zJ b hy]
 refine⟨zbe hT rfl,hM _ _ _ _ k1 hT fun m1 l1 L1 g1 _ h1 R1=>n5 _ (za fun Q6 n6 r6=>?_)⟩
 walk_at "D"
 refine⟨zbe (hT.gr g1) rfl,hM _ _ _ _ k2 (hT.gr g1) fun m2 l2 L2 g2 _ h2 R2=>n6 _ (ssn ?_)⟩
 walk_at "D"
 refine⟨_,_,g2 _ _ h1,h2,zq5 R1 k1 hs,zq5 R2 k2 hs,fun r hr=>h _ r L1 L2 ((g1.trans g2).trans (Gr.new hr _)) ((g1.trans g2).fresh hr) ?_ R1 R2⟩
 rw[zq9];exact ups _ _ _
end
noncomputable def hmV:Option HM→V
 | none=> .none
 | some h=> .tup [.str h.a1,.str h.a2,.str h.b1,.str h.b2,.str h.c]
theorem zi6 {l s:Tx}{i:Nat} (h:Occ l s i):l=l.take i++s++l.drop (i+s.length):=by
 obtain⟨h1,h2⟩:=h
 have e:l.drop i=s++l.drop (i+s.length):=by
  rw[←List.drop_drop]
  have:=List.take_append_drop s.length (l.drop i)
  rw[h2] at this;exact this.symm
 rw[List.append_assoc,←e,List.take_append_drop]
theorem zxg {H:Tx→Tx→Option HM→Prop}{a b:Tx}{i:Nat} (ha:a≠[]) (hl:a.length≤b.length) (hi:Occ b a i) (hf: ∀j,j<i→¬Occ b a j):CompR H a b [(1,b.take i),(0,a),(1,b.drop (i+a.length))]:=by
 have e:=zi6 hi
 have hu:(b.take i).length=i:=by rw[List.length_take];exact Nat.min_eq_left (ntr (Nat.le_add_right ..) hi.1)
 generalize b.take i=u at *
 generalize b.drop (i+a.length)=v at *
 subst e
 exact .inB ha hl fun j hj=>hf j (hu▸hj)
theorem zxl {H:Tx→Tx→Option HM→Prop}{a b:Tx}{i:Nat} (hb:b≠[]) (hl:b.length<a.length) (hi:Occ a b i) (hf: ∀j,j<i→¬Occ a b j):CompR H a b [(-1,a.take i),(0,b),(-1,a.drop (i+b.length))]:=by
 have e:=zi6 hi
 have hu:(a.take i).length=i:=by rw[List.length_take];exact Nat.min_eq_left (ntr (Nat.le_add_right ..) hi.1)
 generalize a.take i=u at *
 generalize a.drop (i+b.length)=v at *
 subst e
 exact .inA hb hl fun j hj=>hf j (hu▸hj)
section
variable {P:PC}{Q:V→Mem→Prop}{t:Addr}{dl:V}{a b:Tx}{m:Mem}{H:Tx→Tx→Option HM→Prop}{z:Tz}
noncomputable def zq0 (P:PC) (z:Tz) (H:Tx→Tx→Option HM→Prop) (t:Addr):Prop:= ∀(a b:Tx) (m:Mem) (Q:V→Mem→Prop),a.length+b.length≤41→a≠[]→b≠[]→TZ P z m t→(∀m' r,Gr m m'→H a b r→(∀h,r=some h→HM.ok a b h)→Q (hmV r) m')→P.meth "diff_halfMatch" [.obj t,.str a,.str b] Q m
noncomputable def z3k (P:PC) (z:Tz) (H:Tx→Tx→Option HM→Prop) (t:Addr) (dl:V) (a b:Tx):Prop:=4≤a.length+b.length→∀(m:Mem) (Q:V→Mem→Prop),TZ P z m t→
 (∀m' r L,Gr m m'→m r=none→m' r=some (.list (rv L))→(HNo H a b→(∀j,¬Occ (if b.length<a.length then a else b) (if b.length<a.length then b else a) j)→CompR H a b L)→Q (.obj r) m')→P.meth "diff_bisect" [.obj t,.str a,.str b,dl] Q m
noncomputable abbrev cpS (t:Addr) (a b:Tx) (dl:V) (l s:Tx) (u7 u8 u9 u10 u11 u12 u13 u14 u15 u16:Option V) (m:Mem):St:=
 ⟨[some (.obj t),some (.str a),some (.str b),some (.bool false),some dl,some (.str l),some (.str s),u7,u8,u9,u10,u11,u12,u13,u14,u15,u16],m⟩
theorem z0t {l s:Tx}{n:Nat} (cD:P.cc "DIFF_DELETE"=some (.int (-1))) (cI:P.cc "DIFF_INSERT"=some (.int 1)) (cE:P.cc "DIFF_EQUAL"=some (.int 0)) (hM:zpj P z H t dl n) (hH:zq0 P z H t) (hB:z3k P z H t dl a b) (hT:TZ P z m t)
  (ha:a≠[]) (hb:b≠[]) (hn:a.length+b.length≤n+1) (hs:n≤40) (hl:l=if b.length<a.length then a else b) (hsh:s=if b.length<a.length then b else a)
  (h: ∀m' r L,Gr m m'→m r=none→m' r=some (.list (rv L))→CompR H a b L→Q (.obj r) m'):
  zs P [.assign [.var 7] (.me (.var 5) .find [.var 6]),
  .ife (.cmp (.var 7) [.NotEq] [.neg (.lit (.int 1))]) zbc [],
  .ife (.cmp (.bi .len [.var 6]) [.Eq] [.lit (.int 1)]) [
   .ret (.list [.tup [.attr (.var 0) "DIFF_DELETE",.var 1],.tup [.attr (.var 0) "DIFF_INSERT",.var 2]])] [],
  .assign [.var 9] (.imeth (.var 0) "diff_halfMatch" [.var 1,.var 2]),
  .ife (.var 9) zbb [],
  .ife (.band [.var 3,.cmp (.bi .len [.var 1]) [.Gt] [.lit (.int 100)],.cmp (.bi .len [.var 2]) [.Gt] [.lit (.int 100)]]) [.junk] [],
  .ret (.imeth (.var 0) "diff_bisect" [.var 1,.var 2,.var 4])] (fun fl σ'=>Q (retV fl) σ'.mem) (cpS t a b dl l s none none none none none none none none none none m):=by
 have hla:sma l.length:=by unfold sma;rw[hl];split<;>grind
 have hls:sma s.length:=by unfold sma;rw[hsh];split<;>grind
 have hsa:sma a.length:=by unfold sma;grind
 have hsb:sma b.length:=by unfold sma;grind
 refine za fun Q1 n1 r1=>?_
 walk_at "D"
 refine⟨trivial,hla,hls,fun i hi=>n1 _ (za fun Q2 n2 r2=>zi fun K kt kf=>?_)⟩
 walk_at "D"
 rcases hi with ⟨rfl,no⟩ | ⟨i,rfl,_,hi,hf⟩
 ·refine kf _ (zd (n2 _ (za fun Q3 n3 r3=>zi fun K' kt' kf'=>?_)))
  walk_at "D"
  refine⟨hls,?_⟩
  have hlen:s.length=if b.length<a.length then b.length else a.length:=by rw[hsh];split<;>rfl
  have no': ∀j,¬Occ (if b.length<a.length then a else b) (if b.length<a.length then b else a) j:=fun j q=>no j (Nat.zero_le _) (by rw[hl,hsh];exact q)
  by_cases c1:s.length=1
  ·rw[decide_eq_true (by exact Int.le_antisymm (zw 35249199776298 rfl c1) (zw 8281099669547 rfl c1):(s.length:Int)=1)]
   refine kt' _ (ssn ?_)
   walk_at "D"
   exact zbr hT rfl cD (zbr hT rfl cI fun r hr=>r3 _ _ (h _ r _ (Gr.new hr _) hr (ups _ _ _) (.one ha hb (hlen▸c1) no')))
  ·rw[decide_eq_false (by grind: ¬(s.length:Int)=1)]
   refine kf' _ (zd (n3 _ (za fun Q4 n4 r4=>?_)))
   walk_at "D"
   refine⟨zbe hT rfl,hH a b m _ (by exact zf 56416028551481126694379263104040 rfl hn hs) ha hb hT fun m1 r g1 hr' ho=>n4 _ (za fun Q5 n5 r5=>zi fun K2 kt2 kf2=>?_)⟩
   cases r with
   | some hh=>
    have ho:=ho hh rfl
    dsimp only[r_lit,r_var,r_bin,r_neg,r_not,r_list,r_tup,r_cmp,r_band,r_bor,r_idx,r_slc,r_attr,r_bi,r_call,r_me,r_imeth,r_comp,r_comp2,r_ite,r_ch2,r_es0,r_es1,r_ch1,r_bo1,r_bo2,r_tnot,r_tband,r_tbor,r_tcmp,r_tvar,r_tcall,r_tme,r_tidx,r_tbi,r_ts0,r_ts1,r_tgs0,r_tgs1,r_sexpr,r_sassign,r_saug,r_sdel,r_sife,r_swhl,r_sfr,r_sret,r_ss0,r_ss1,tg_var,tg_tup,tg_idx,tg_slc,bin_add,bin_sub,bin_mul,bin_div,bin_mod,bin_cat,cmp_eqi,cmp_eqs,cmp_nei,cmp_nes,cmp_lt,cmp_le,cmp_gt,cmp_ge,cmp_isn,cmp_ist,cmp_notn,cmp_nott,tr_none,tr_bool,tr_int,tr_str,tr_tup,ix_str,ix_tup,sl_ii,sl_in,sl_ni,bi_lens,bi_lent,bi_min,bi_max,bi_rng,bi_rng2,me_find,me_find2,ok_find,me_app,ok_app,me_ins,me_pop,me_join,me_ends,me_starts,ok_ins,ok_pop,ok_join,ok_ends,ok_starts,it_str,it_rng,neg_int,aug_addi,aug_adds,aug_subi,St.set,St.setAll,List.map_cons,List.map_nil,List.replicate,List.cons_append,List.nil_append,List.getElem?_cons_succ,List.getElem?_cons_zero,List.set_cons_succ,List.set_cons_zero,List.length_cons,List.length_nil,dreduceIte,retV,hmV]
    refine⟨by unfold sma;show 5≤_;exact zsk 34517783957560 rfl,kt2 _ ?_⟩
    unfold zbb
    have la:=congrArg List.length ho.ea
    have lb:=congrArg List.length ho.eb
    have lc:=List.length_pos_iff.mpr ho.c0
    simp only[List.length_append] at la lb
    refine za fun Q6 n6 r6=>?_
    walk_at "D"
    refine⟨rfl,n6 _ (za fun Q7 n7 r7=>?_)⟩
    walk_at "D"
    refine⟨zbe (hT.gr g1) rfl,hM _ _ _ _ (by exact zpr 6660548499985345743521615478202507032282867960683959336 rfl hn lc la lb) (hT.gr g1) fun m2 l1 L1 g2 _ h1 R1=>n7 _ (za fun Q8 n8 r8=>?_)⟩
    walk_at "D"
    have hT2:=hT.gr (g1.trans g2)
    refine⟨zbe hT2 rfl,hM _ _ _ _ (by exact zpr 6684680815020953612506994722160318297503426718833579048 rfl hn lc la lb) hT2 fun m3 l2 L2 g3 _ h2 R2=>n8 _ (ssn ?_)⟩
    walk_at "D"
    have hT3:=hT2.gr g3
    have s1:sma (rv L1).length:=by
     have G:=zaj R1
     have:=llp L1
     have:=zen G.n G.k
     rw[G.m,G.p] at this
     rw[z6];unfold sma;(clear lc;lia)
    have s2:sma (rv L2).length:=by
     have G:=zaj R2
     have:=llp L2
     have:=zen G.n G.k
     rw[G.m,G.p] at this
     rw[z6];unfold sma;(clear lc;lia)
    have s3:sma (rv L1++[V.tup [.int 0,.str hh.c]]).length:=by
     unfold sma at s1 ⊢
     have G:=zaj R1
     have:=llp L1
     have:=zen G.n G.k
     rw[G.m,G.p] at this
     rw[List.length_append,z6];show _+1≤_;(clear lc;lia)
    refine zbr hT3 rfl cE fun c hc=>?_
    have gc:=Gr.new hc (.list [V.tup [.int 0,.str hh.c]])
    refine⟨_,_,gc _ _ (g3 _ _ h1),ups _ _ _,s1,(by unfold sma;exact(by decide:1≤1000000)),fun e he=>?_⟩
    have ge:=Gr.new he (.list (rv L1++[V.tup [.int 0,.str hh.c]]))
    refine⟨_,_,ups _ _ _,ge _ _ (gc _ _ h2),s3,s2,fun r hr=>r5 _ _ (h _ r _ ((((g1.trans g2).trans g3).trans gc).trans (ge.trans (Gr.new hr _))) (((((g1.trans g2).trans g3).trans gc).trans ge).fresh hr) ?_ (.half no' hr' ho R1 R2))⟩
    rw[show rv L1++[V.tup [.int 0,.str hh.c]]++rv L2=rv (L1++(0,hh.c)::L2) by rw[←zq9,List.append_assoc];rfl]
    exact ups _ _ _
   | none=>
    have h4:4≤a.length+b.length:=by
     have h1:=List.length_pos_iff.mpr ha
     have h2:=List.length_pos_iff.mpr hb
     split at hlen
     ·lia
     ·lia
    dsimp only[r_lit,r_var,r_bin,r_neg,r_not,r_list,r_tup,r_cmp,r_band,r_bor,r_idx,r_slc,r_attr,r_bi,r_call,r_me,r_imeth,r_comp,r_comp2,r_ite,r_ch2,r_es0,r_es1,r_ch1,r_bo1,r_bo2,r_tnot,r_tband,r_tbor,r_tcmp,r_tvar,r_tcall,r_tme,r_tidx,r_tbi,r_ts0,r_ts1,r_tgs0,r_tgs1,r_sexpr,r_sassign,r_saug,r_sdel,r_sife,r_swhl,r_sfr,r_sret,r_ss0,r_ss1,tg_var,tg_tup,tg_idx,tg_slc,bin_add,bin_sub,bin_mul,bin_div,bin_mod,bin_cat,cmp_eqi,cmp_eqs,cmp_nei,cmp_nes,cmp_lt,cmp_le,cmp_gt,cmp_ge,cmp_isn,cmp_ist,cmp_notn,cmp_nott,tr_none,tr_bool,tr_int,tr_str,tr_tup,ix_str,ix_tup,sl_ii,sl_in,sl_ni,bi_lens,bi_lent,bi_min,bi_max,bi_rng,bi_rng2,me_find,me_find2,ok_find,me_app,ok_app,me_ins,me_pop,me_join,me_ends,me_starts,ok_ins,ok_pop,ok_join,ok_ends,ok_starts,it_str,it_rng,neg_int,aug_addi,aug_adds,aug_subi,St.set,St.setAll,List.map_cons,List.map_nil,List.replicate,List.cons_append,List.nil_append,List.getElem?_cons_succ,List.getElem?_cons_zero,List.set_cons_succ,List.set_cons_zero,List.length_cons,List.length_nil,dreduceIte,retV,hmV]
    refine kf2 _ (zd (n5 _ (za fun Q6 n6 r6=>zi fun K3 kt3 kf3=>?_)))
    walk_at "D"
    refine kf3 _ (zd (n6 _ (ssn ?_)))
    walk_at "D"
    exact⟨zbe (hT.gr g1) rfl,hB h4 m1 _ (hT.gr g1) fun m2 r L g2 hf2 hr2 hc=>h m2 r L (g1.trans g2) (g1.fresh hf2) hr2 (hc ⟨hr',hlen▸c1⟩ no')⟩
 ·rw[decide_eq_false (by grind: ¬(i:Int)=-1)]
  refine kt _ ?_
  unfold zbc
  have e:=zi6 hi
  have hi1:i≤l.length:=ntr (Nat.le_add_right ..) hi.1
  refine za fun Q3 n3 r3=>?_
  walk_at "D"
  refine zbr hT rfl cI ⟨hla,zbr hT rfl cE (zbr hT rfl cI ⟨hls,hla,fun c hc=>n3 _ ?_⟩)⟩
  rw[zco l hi1,show(i:Int)+(s.length:Int)=((i+s.length:Nat):Int) by exact Int.le_antisymm (zc 317033342366768 rfl) (zc 347511210421808 rfl),zJ l hi.1]
  have gc:=Gr.new hc (.list (rv [(1,l.take i),(0,s),(1,l.drop (i+s.length))]))
  have mc:upd m c (.list (rv [(1,l.take i),(0,s),(1,l.drop (i+s.length))])) c=some (.list (rv [(1,l.take i),(0,s),(1,l.drop (i+s.length))])):=ups _ _ _
  have fin: ∀(m':Mem) (L:Row),m' c=some (.list (rv L))→Ext c (upd m c (.list (rv [(1,l.take i),(0,s),(1,l.drop (i+s.length))]))) m'→CompR H a b L→Q (.obj c) m':=fun m' L h1 hx hc'=>h m' c L (fun x o e=>hx x o (fun q=>by subst q;rw[show m x=none from hc] at e;exact(Option.some_ne_none _ e.symm).elim) (gc x o e)) hc h1 hc'
  show zs P _ Q2 (cpS t a b dl l s (some (.int i)) (some (.obj c)) none none none none none none none none (upd m c (.list (rv [(1,l.take i),(0,s),(1,l.drop (i+s.length))]))))
  have hT':=hT.gr gc
  generalize upd m c (.list (rv [(1,l.take i),(0,s),(1,l.drop (i+s.length))]))=m1 at mc hT' fin ⊢
  refine za fun Q4 n4 r4=>zi fun K' kt' kf'=>?_
  walk_at "D"
  refine⟨hsa,hsb,?_⟩
  by_cases c1:b.length<a.length
  ·rw[decide_eq_true (Int.ofNat_lt.mpr c1)]
   rw[if_pos c1] at hl hsh
   subst hl hsh
   refine kt' _ ?_
   unfold zdw
   have t0:=zf4 0 (by exact zsk 4273995833 rfl)
   have t2:=zf4 2 (by exact zsk 4274004025 rfl)
   have hex: ∃l,m1 c=some (.list l):=⟨_,mc⟩
   refine za fun Q5 n5 r5=>?_
   walk_at "D"
   refine zbr hT' rfl cD (zj mc t0 (q:=(1,l.take i)) rfl (zN ⟨c,0,_,0,rfl,rfl,t0,mc,rfl,n5 _ ?_⟩))
   have mc2:upd m1 c (.list (rv [(-1,l.take i),(0,s),(1,l.drop (i+s.length))])) c=some (.list (rv [(-1,l.take i),(0,s),(1,l.drop (i+s.length))])):=ups _ _ _
   have x2:Ext c m1 (upd m1 c (.list (rv [(-1,l.take i),(0,s),(1,l.drop (i+s.length))]))):= .upd _ _ _
   show zs P _ Q4 (cpS t _ _ dl _ _ (some (.int i)) (some (.obj c)) none none none none none none none none (upd m1 c (.list (rv [(-1,l.take i),(0,s),(1,l.drop (i+s.length))]))))
   have hT2:=hT'.ext hex x2
   generalize upd m1 c (.list (rv [(-1,l.take i),(0,s),(1,l.drop (i+s.length))]))=m2 at mc2 x2 hT2 ⊢
   refine ssn ?_
   walk_at "D"
   refine zbr hT2 rfl cD (zj mc2 t2 (q:=(1,l.drop (i+s.length))) rfl (zN ⟨c,2,_,2,rfl,rfl,t2,mc2,rfl,n4 _ (ssn ?_)⟩))
   walk_at "D"
   have mc3:upd m2 c (.list (rv [(-1,l.take i),(0,s),(-1,l.drop (i+s.length))])) c=some (.list (rv [(-1,l.take i),(0,s),(-1,l.drop (i+s.length))])):=ups _ _ _
   exact r2 _ _ (fin _ _ mc3 (x2.trans (.upd _ _ _)) (zxl hb c1 hi fun j hj=>hf j (Nat.zero_le _) hj))
  ·rw[decide_eq_false (by exact Int.not_lt.mpr (zc 347510502130220 rfl c1): ¬(b.length:Int)<a.length)]
   rw[if_neg c1] at hl hsh
   subst hl hsh
   refine kf' _ (zd (n4 _ (ssn ?_)))
   walk_at "D"
   exact r2 _ _ (fin _ _ mc (.refl _ _) (zxg ha (by exact zc 4952567644716 rfl c1) hi fun j hj=>hf j (Nat.zero_le _) hj))
end
section
variable {P:PC}{Q:V→Mem→Prop}{t:Addr}{dl:V}{a b:Tx}{m:Mem}{H:Tx→Tx→Option HM→Prop}{z:Tz}
theorem zul {n:Nat} (cD:P.cc "DIFF_DELETE"=some (.int (-1))) (cI:P.cc "DIFF_INSERT"=some (.int 1)) (cE:P.cc "DIFF_EQUAL"=some (.int 0)) (hM:zpj P z H t dl n) (hH:zq0 P z H t) (hB:a≠[]→b≠[]→z3k P z H t dl a b) (hT:TZ P z m t)
  (hne:a≠[]∨b≠[]) (hn:a.length+b.length≤n+1) (hs:n≤40)
  (h: ∀m' r L,Gr m m'→m r=none→m' r=some (.list (rv L))→CompR H a b L→Q (.obj r) m'):
  zs P zY (fun fl σ'=>Q (retV fl) σ'.mem) ⟨[.obj t,.str a,.str b,.bool false,dl].map some++List.replicate 12 none,m⟩:=by
 have hsa:sma a.length:=by unfold sma;exact zf 40751406482455572450299105809798184 rfl hn hs
 have hsb:sma b.length:=by unfold sma;exact zf 40751406487291275728757622508622888 rfl hn hs
 show zs P _ _ ⟨[some (.obj t),some (.str a),some (.str b),some (.bool false),some dl,none,none,none,none,none,none,none,none,none,none,none,none],m⟩
 unfold zY
 refine za fun Q1 n1 r1=>zi fun K kt kf=>?_
 walk_at "D"
 refine⟨hsa,?_⟩
 cases a with
 | nil=>
  refine kt _ (ssn ?_)
  walk_at "D"
  exact zbr hT rfl cI fun r hr=>r1 _ _ (h _ r _ (Gr.new hr _) hr (ups _ _ _) (.ins (hne.resolve_left fun q=>q rfl)))
 | cons x as=>
 refine kf _ (zd (n1 _ (za fun Q2 n2 r2=>zi fun K' kt' kf'=>?_)))
 walk_at "D"
 refine⟨hsb,?_⟩
 cases b with
 | nil=>
  refine kt' _ (ssn ?_)
  walk_at "D"
  exact zbr hT rfl cD fun r hr=>r2 _ _ (h _ r _ (Gr.new hr _) hr (ups _ _ _) (.del (fun q=>nomatch q)))
 | cons y bs=>
 have ha:x::as≠[]:=fun q=>nomatch q
 have hb:y::bs≠[]:=fun q=>nomatch q
 refine kf' _ (zd (n2 _ ?_))
 clear kt kf kt' kf' n1 n2 r1 r2
 generalize x::as=a at *
 generalize y::bs=b at *
 refine za fun Q3 n3 r3=>zi fun K2 kt2 kf2=>?_
 walk_at "D"
 refine⟨hsa,hsb,?_⟩
 have rest: ∀l s,(l=if b.length<a.length then a else b)→(s=if b.length<a.length then b else a)→Q3 .next (cpS t a b dl l s none none none none none none none none none none m):=fun l s e1 e2=>
  n3 _ (z0t cD cI cE hM hH (hB ha hb) hT ha hb hn hs e1 e2 h)
 by_cases c:b.length<a.length
 ·rw[decide_eq_true (Int.ofNat_lt.mpr c)]
  refine kt2 _ (ssn ?_)
  walk_at "D"
  exact⟨rfl,rest a b (if_pos c).symm (if_pos c).symm⟩
 ·rw[decide_eq_false (by exact Int.not_lt.mpr (zc 347510502130220 rfl c): ¬(b.length:Int)<a.length)]
  refine kf2 _ (ssn ?_)
  walk_at "D"
  exact⟨rfl,rest b a (if_neg c).symm (if_neg c).symm⟩
end
theorem z58 {α:Type} (xs ys:List α):xs.take (zfp xs.length none)++ys++xs.drop (max (zfp xs.length none) (zh3 xs.length (some 0)))=ys++xs:=by
 have:zh3 xs.length (some 0)=0:=by unfold zh3;exact(zfs (n:=xs.length) (i:=0)).trans (Nat.zero_min _)
 rw[this];rfl
theorem zqz {m:Mem}{x:Tx}{K:Bool→Prop} (h:K false):zck m .Eq (.str x) .none K:=
 ⟨.str (mkS x),.none,rfl,rfl,by rw[show PyData.eqv (.str (mkS x)) .none=false by simp[PyData.eqv]];exact h⟩
theorem zqr (a b:Tx):Apart (rn b a) (ro b a) where
 hd x y as bs h1 h2:=by
  have:=zsx (o:=b) (n:=a) (by rw[h2];exact fun q=>nomatch q) (by rw[h1];exact fun q=>nomatch q)
  rw[h1,h2] at this
  exact fun q=>this (by rw[q];rfl)
 tl x y as bs h1 h2:=by
  have:=zvi (o:=b) (n:=a) (by rw[h2];simp) (by rw[h1];simp)
  rw[h1,h2] at this
  exact fun q=>this (by rw[q];simp)
section
variable {P:PC}{Q:V→Mem→Prop}{t:Addr}{dl:V}{a b:Tx}{m:Mem}{H:Tx→Tx→Option HM→Prop}{z:Tz}
noncomputable def zou (P:PC) (z:Tz) (t:Addr):Prop:= ∀(d:Addr) (L:Row) (m:Mem) (Q:V→Mem→Prop),TZ P z m t→m d=some (.list (rv L))→zk L→phi L<100→(∀m',m' d=some (.list (rv (zB 100 L)))→Ext d m m'→Q .none m')→P.meth "diff_cleanupMerge" [.obj t,.obj d] Q m
noncomputable def z0d (P:PC) (z:Tz) (H:Tx→Tx→Option HM→Prop) (t:Addr) (dl:V) (n:Nat):Prop:= ∀(a b:Tx) (m:Mem) (Q:V→Mem→Prop),a.length+b.length≤n→(a≠[]∨b≠[])→Apart a b→TZ P z m t→
 (∀m' r L,Gr m m'→m r=none→m' r=some (.list (rv L))→CompR H a b L→Q (.obj r) m')→P.meth "diff_compute" [.obj t,.str a,.str b,.bool false,dl] Q m
noncomputable abbrev mnS (t:Addr) (a b:Tx) (dl:V) (u5 u6 u7 u8:Option V) (m:Mem):St:=⟨[some (.obj t),some (.str a),some (.str b),some (.bool false),some dl,u5,u6,u7,u8],m⟩
theorem z3x {a2 b2 p s:Tx}{L:Row}{d:Addr}{u5:Option V} (c:Cm P) (hC:zou P z t) (hT:TZ P z m t) (hne:p++a2++s≠p++b2++s) (hlp:lcp (p++a2++s) (p++b2++s)=p.length) (hA:Apart a2 b2) (hn:(p++a2++s).length+(p++b2++s).length≤40)
  (hm:m d=some (.list (rv L))) (hc:CompR H a2 b2 L) (h: ∀m' L,Ext d m m'→m' d=some (.list (rv L))→MainR H (p++a2++s) (p++b2++s) L→Q (.obj d) m'):
  zs P [.ife (.var 6) [
   .assign [.slc (.var 8) (.lit .none) (.lit (.int 0))] (.list [.tup [.attr (.var 0) "DIFF_EQUAL",.var 6]])] [],
  .ife (.var 7) [
   .expr (.me (.var 8) .append [.tup [.attr (.var 0) "DIFF_EQUAL",.var 7]])] [],
  .expr (.imeth (.var 0) "diff_cleanupMerge" [.var 8]),
  .ret (.var 8)] (fun fl σ'=>Q (retV fl) σ'.mem) (mnS t a2 b2 dl u5 (some (.str p)) (some (.str s)) (some (.obj d)) m):=by
 simp only[List.length_append] at hn
 have C:=zfx hc hA
 have hp1:=zen C.n C.k
 rw[C.m,C.p] at hp1
 have hL:=llp L
 have one_phi: ∀x:Tx,phi (yO x)≤x.length+1:=fun x=>by
  unfold yO;split
  ·exact Nat.zero_le _
  ·rw[zh];exact Nat.le_refl _
 have hph:phi (yO p++L++yO s)<100:=by
  rw[pha,pha]
  have:=one_phi p;have:=one_phi s;grind
 have hK:zk (yO p++L++yO s):=((zL p).append C.k).append (zL s)
 have fin: ∀m',m' d=some (.list (rv (yO p++L++yO s)))→Ext d m m'→zs P [.expr (.imeth (.var 0) "diff_cleanupMerge" [.var 8]),.ret (.var 8)] (fun fl σ'=>Q (retV fl) σ'.mem) (mnS t a2 b2 dl u5 (some (.str p)) (some (.str s)) (some (.obj d)) m'):=fun m' h1 hx=>by
  have hT':=hT.ext ⟨_,hm⟩ hx
  refine za fun Q1 n1 r1=>?_
  walk_at "D"
  refine⟨zbe hT' rfl,hC d _ m' _ hT' h1 hK hph fun m'' h2 hx2=>n1 _ (ssn ?_)⟩
  exact h m'' _ (hx.trans hx2) h2 (.diff hne hlp hA hc hph)
 have app: ∀m',m' d=some (.list (rv (yO p++L)))→Ext d m m'→zs P [.ife (.var 7) [
   .expr (.me (.var 8) .append [.tup [.attr (.var 0) "DIFF_EQUAL",.var 7]])] [],
  .expr (.imeth (.var 0) "diff_cleanupMerge" [.var 8]),.ret (.var 8)] (fun fl σ'=>Q (retV fl) σ'.mem) (mnS t a2 b2 dl u5 (some (.str p)) (some (.str s)) (some (.obj d)) m'):=fun m' h1 hx=>by
  have hT':=hT.ext ⟨_,hm⟩ hx
  refine za fun Q1 n1 r1=>zi fun K kt kf=>?_
  walk_at "D"
  refine⟨by unfold sma;exact zP 5216180030997089016269651928196391976 rfl hn,?_⟩
  cases s with
  | nil=>exact kf _ (zd (n1 _ (fin m' (by rw[show yO p++L++yO []=yO p++L from List.append_nil _];exact h1) hx)))
  | cons x s=>
   refine kt _ (ssn ?_)
   walk_at "D"
   refine⟨⟨_,h1⟩,zbr hT' c.cE.1 c.cE.2 ⟨_,h1,?_,n1 _ (fin _ ?_ (hx.trans (.upd _ _ _)))⟩⟩
   ·rw[z6,List.length_append]
    have:(yO p).length≤1:=by unfold yO;split<;>simp
    unfold sma;exact zlw 413268359249839170705100002176820705427419565666567029573620597288 rfl hp1 hL hn this
   ·rw[ups,show[V.tup [V.int 0,V.str (x::s)]]=rv (yO (x::s)) from rfl,zq9]
 refine za fun Q1 n1 r1=>zi fun K kt kf=>?_
 walk_at "D"
 refine⟨by unfold sma;exact zP 5216180029759148976984271653297267752 rfl hn,?_⟩
 cases p with
 | nil=>exact kf _ (zd (n1 _ (app m hm (.refl _ _))))
 | cons x p=>
  refine kt _ (ssn ?_)
  walk_at "D"
  refine zbr hT c.cE.1 c.cE.2 fun e he=>?_
  have hde:d≠e:=fun q=>by subst q;rw[show m d=none from he] at hm;cases hm
  refine⟨d,e,none,some 0,_,_,rfl,rfl,rfl,rfl,hde,(Gr.new he _) _ _ hm,ups _ _ _,by rw[z6];unfold sma;exact zk8 48110769042763217938444002858398057186246750946041528872 rfl hp1 hL hn,by unfold sma;exact(by decide:1≤1000000),n1 _ (app _ ?_ ?_)⟩
  ·rw[ups,z58]
   rw[show[V.tup [V.int 0,V.str (x::p)]]=rv (yO (x::p)) from rfl,zq9]
  ·exact(Ext.new he _).trans (.upd _ _ _)
theorem zzk {n:Nat} (c:Cm P) (hK:z0d P z H t dl n) (hC:zou P z t) (hT:TZ P z m t) (hn:a.length+b.length≤n) (hs:n≤40)
  (h: ∀m' r L,Gr m m'→m r=none→m' r=some (.list (rv L))→MainR H a b L→Q (.obj r) m'):
  zs P zap (fun fl σ'=>Q (retV fl) σ'.mem) ⟨[.obj t,.str a,.str b,.bool false,dl].map some++List.replicate 4 none,m⟩:=by
 have hsa:sma a.length:=by unfold sma;exact zf 39796295393023019970995820172328 rfl hn hs
 have hsb:sma b.length:=by unfold sma;exact zf 39796295397745386453865465386024 rfl hn hs
 show zs P _ _ (mnS t a b dl none none none none m)
 unfold zap
 refine za fun Q1 n1 r1=>zi fun K kt kf=>?_
 walk_at "D"
 refine zqz ?_
 rw[if_pos rfl]
 refine zqz ?_
 rw[if_pos rfl]
 refine kf _ (zd (n1 _ (za fun Q2 n2 r2=>zi fun K' kt' kf'=>?_)))
 walk_at "D"
 by_cases hab:a=b
 ·rw[decide_eq_true hab]
  subst hab
  refine kt' _ ?_
  unfold zgm
  refine za fun Q3 n3 r3=>zi fun K2 kt2 kf2=>?_
  walk_at "D"
  refine⟨hsa,?_⟩
  have res:=MainR.same (H:=H) a
  cases a with
  | nil=>
   refine kf2 _ (zd (n3 _ (ssn ?_)))
   walk_at "D"
   exact fun r hr=>r2 _ _ (h _ r [] (Gr.new hr _) hr (ups _ _ _) res)
  | cons x as=>
   refine kt2 _ (ssn ?_)
   walk_at "D"
   exact zbr hT c.cE.1 c.cE.2 fun r hr=>r3 _ _ (r2 _ _ (h _ r _ (Gr.new hr _) hr (ups _ _ _) res))
 ·rw[decide_eq_false hab]
  refine kf' _ (zd (n2 _ (za fun Q3 n3 r3=>?_)))
  walk_at "D"
  have hl:=zV a b
  have ea:pre b a++rn b a++su b a=a:=zoc b a
  have eb:pre b a++ro b a++su b a=b:=zoj b a
  refine⟨zbe hT c.fp,c.cp hsa hsb (n3 _ (za fun Q4 n4 r4=>?_))⟩
  walk_at "D"
  refine⟨hsa,n4 _ (za fun Q5 n5 r5=>?_)⟩
  walk_at "D"
  refine⟨hsa,n5 _ (za fun Q6 n6 r6=>?_)⟩
  walk_at "D"
  refine⟨hsb,n6 _ (za fun Q7 n7 r7=>?_)⟩
  rw[zco a hl.1,zJ a hl.1,zJ b hl.2]
  show wpS P _ Q7 (mnS t (mn b a) (mo b a) dl (some (.int (lcp a b:Nat))) (some (.str (pre b a))) none none m)
  have hla:sma (mn b a).length:=by unfold sma mn;rw[List.length_drop];exact za9 341847574551669824780579710767223414461480 rfl hn hs (Nat.sub_add_cancel (zc 4952567644712 rfl hl.1))
  have hlb:sma (mo b a).length:=by unfold sma mo;rw[List.length_drop];exact za9 341847574551670443750599353457360864023592 rfl hn hs (Nat.sub_add_cancel (zc 4952567644712 rfl hl.2))
  walk_at "D"
  refine⟨zbe hT c.fs,c.cs hla hlb (n7 _ (za fun Q8 n8 r8=>zi fun K2 kt2 kf2=>?_))⟩
  walk_at "D"
  have hms:=zcg (mn b a) (mo b a)
  have rest: ∀u5,Q8 .next (mnS t (rn b a) (ro b a) dl u5 (some (.str (pre b a))) (some (.str (su b a))) none m):=fun u5=>n8 _ (za fun Q9 n9 r9=>by
   have l1:=congrArg List.length ea
   have l2:=congrArg List.length eb
   simp only[List.length_append] at l1 l2
   walk_at "D"
   refine⟨zbe hT rfl,hK _ _ _ _ (by exact zlw 775389897169060467394561533180954075560678440 rfl hn l1 l2) ?_ (zqr a b) hT fun m1 r L g1 hf h1 hc=>n9 _ ?_⟩
   ·by_cases q:rn b a=[]
    ·refine .inr fun q2=>hab ?_
     rw[q] at ea;rw[q2] at eb
     exact ea.symm.trans eb
    ·exact .inl q
   ·refine z3x (H:=H) c hC (hT.gr g1) (by rw[ea,eb];exact hab) (by rw[ea,eb];unfold pre;rw[List.length_take,Nat.min_eq_left hl.1]) (zqr a b) (by rw[ea,eb];exact ntr ‹_› ‹_›) h1 hc fun m2 L' hx h2 R=>?_
    rw[ea,eb] at R
    exact h m2 r L' (fun x o e=>hx x o (fun q=>by subst q;rw[hf] at e;cases e) (g1 x o e)) hf h2 R)
  by_cases c0:lcs (mn b a) (mo b a)=0
  ·rw[decide_eq_true (by exact Int.le_antisymm (zw 64827163178 rfl c0) (zw 983088 rfl):((lcs (mn b a) (mo b a):Nat):Int)=0)]
   refine kt2 _ (ssn ?_)
   walk_at "D"
   have e1:rn b a=mn b a:=by unfold rn ms;rw[c0];exact List.take_of_length_le (by exact zw 66104 rfl)
   have e2:ro b a=mo b a:=by unfold ro ms;rw[c0];exact List.take_of_length_le (by exact zw 66104 rfl)
   have e3:su b a=[]:=by unfold su ms;rw[c0];exact List.drop_of_length_le (by exact zc 5071428668490283 rfl (Nat.sub_add_cancel (zw 65592 rfl)))
   have:=rest (some (.int (lcs (mn b a) (mo b a):Nat)))
   rw[e1,e2,e3] at this
   exact this
  ·rw[decide_eq_false (by grind: ¬((lcs (mn b a) (mo b a):Nat):Int)=0)]
   refine kf2 _ ?_
   unfold zf0
   refine za fun Q9 n9 r9=>?_
   walk_at "D"
   refine⟨hla,n9 _ (za fun Q10 n10 r10=>?_)⟩
   walk_at "D"
   refine⟨hla,n10 _ (ssn ?_)⟩
   walk_at "D"
   refine⟨hlb,?_⟩
   rw[zj9 (by(clear hn hs hl hms;lia)) hms.1,zev (by grind) hms.1,zev (by grind) hms.2]
   exact rest _
end
inductive DmM (cls:Addr) (H:Tx→Tx→Option HM→Prop) (z:Tz) (j:Nat):String→List V→(V→Mem→Prop)→Mem→Prop
 | cm {f:String} {vs:List V} {Q:V→Mem→Prop} {m:Mem}:zqf cls 100 f vs Q m→DmM cls H z j f vs Q m
 | half {t:Addr} {a b:Tx} {Q:V→Mem→Prop} {m:Mem}:a.length+b.length≤41→a≠[]→b≠[]→TZ (za2 cls) z m t→(∀m' r,Gr m m'→H a b r→(∀h,r=some h→HM.ok a b h)→Q (hmV r) m')→DmM cls H z j "diff_halfMatch" [.obj t,.str a,.str b] Q m
 | main {t:Addr} {a b:Tx} {dl:V} {Q:V→Mem→Prop} {m:Mem}:TZ (za2 cls) z m t→a.length+b.length≤40→4 * (a.length+b.length)+4≤j→(∀m' r L,Gr m m'→m r=none→m' r=some (.list (rv L))→MainR H a b L→Q (.obj r) m')→DmM cls H z j "diff_main" [.obj t,.str a,.str b,.bool false,dl] Q m
 | comp {t:Addr} {a b:Tx} {dl:V} {Q:V→Mem→Prop} {m:Mem}:TZ (za2 cls) z m t→a.length+b.length≤40→4 * (a.length+b.length)+3≤j→(a≠[]∨b≠[])→Apart a b→(∀m' r L,Gr m m'→m r=none→m' r=some (.list (rv L))→CompR H a b L→Q (.obj r) m')→DmM cls H z j "diff_compute" [.obj t,.str a,.str b,.bool false,dl] Q m
 | bis {t:Addr} {a b:Tx} {dl:V} {Q:V→Mem→Prop} {m:Mem}:TZ (za2 cls) z m t→a.length+b.length≤40→4 * (a.length+b.length)+2≤j→2≤zm a b→4≤a.length+b.length→a≠[]→b≠[]→(∀m' r L,Gr m m'→m r=none→m' r=some (.list (rv L))→(HNo H a b→zhy a b→CompR H a b L)→Q (.obj r) m')→DmM cls H z j "diff_bisect" [.obj t,.str a,.str b,dl] Q m
 | split {t:Addr} {a b:Tx} {dl:V} {Q:V→Mem→Prop} {m:Mem} {x y:Nat}:TZ (za2 cls) z m t→a.length+b.length≤40→4 * (a.length+b.length)+1≤j→Meet a b x y→(∀m' r L1 L2,Gr m m'→m r=none→m' r=some (.list (rv (L1++L2)))→MainR H (a.take x) (b.take y) L1→MainR H (a.drop x) (b.drop y) L2→Q (.obj r) m')→DmM cls H z j "diff_bisectSplit" [.obj t,.str a,.str b,.int x,.int y,dl] Q m
noncomputable def pcD (cls:Addr) (H:Tx→Tx→Option HM→Prop) (z:Tz) (j:Nat):PC:={za2 cls with meth:=DmM cls H z j}
section
variable {cls:Addr}{H:Tx→Tx→Option HM→Prop}{z:Tz}{j:Nat}{t:Addr}{dl:V}{a b:Tx}
theorem zzr (cls:Addr) (H:Tx→Tx→Option HM→Prop) (z:Tz) (j:Nat):Cm (pcD cls H z j) where
 cD:=⟨rfl,rfl⟩
 cI:=⟨rfl,rfl⟩
 cE:=⟨rfl,rfl⟩
 fp:=rfl
 fs:=rfl
 fm:=rfl
 cp:=fun h1 h2 q=> .cm (.inl ⟨rfl,_,_,_,rfl,h1,h2,q⟩)
 cs:=fun h1 h2 q=> .cm (.inr (.inl ⟨rfl,_,_,_,rfl,h1,h2,q⟩))
theorem zm8:zou (pcD cls H z j) z t:=fun d L m Q hT hm hk hp q=>
 .cm (.inr (.inr ⟨rfl,t,d,L,rfl,hT.tool,hm,hk,hp,by exact zw 9168204161431372329 rfl hp,q⟩))
theorem zx0:zq0 (pcD cls H z j) z H t:=fun a b m Q h1 ha hb hT q=> .half h1 ha hb hT q
theorem zqa {n:Nat} (hn:4 * n+4≤j) (h40:n≤40):zpj (pcD cls H z j) z H t dl n:=fun a b m Q h1 hT q=>
 .main hT (ntr h1 h40) (ntr (Nat.add_le_add_right (Nat.mul_le_mul_left 4 h1) 4) hn) q
theorem zp7 {n:Nat} (hn:4 * n+3≤j) (h40:n≤40):z0d (pcD cls H z j) z H t dl n:=fun a b m Q h1 h2 hA hT q=>
 .comp hT (ntr h1 h40) (ntr (Nat.add_le_add_right (Nat.mul_le_mul_left 4 h1) 3) hn) h2 hA q
theorem z3g (hn:4 * (a.length+b.length)+2≤j) (h40:a.length+b.length≤40) (hd:2≤zm a b) (ha:a≠[]) (hb:b≠[]):z3k (pcD cls H z j) z H t dl a b:=fun h4 m Q hT q=>
 .bis hT h40 hn hd h4 ha hb q
theorem zs0 {a b:Tx} (ha:a≠[]) (hb:b≠[]) (A:Apart a b):2≤zm a b:=by
 obtain⟨x,as,rfl⟩:=List.exists_cons_of_ne_nil ha
 obtain⟨y,bs,rfl⟩:=List.exists_cons_of_ne_nil hb
 exact zza (A.hd _ _ _ _ rfl rfl) (List.dropLast_concat_getLast ha).symm (List.dropLast_concat_getLast hb).symm (A.tl _ _ _ _ (List.dropLast_concat_getLast ha).symm (List.dropLast_concat_getLast hb).symm)
noncomputable def zru (K:Frag) (cls:Addr) (fns meths:List String):Bool:=
 zqu K (meA K cls "diff_main") [.bool true,.none] zbk zam (zd5 zbk zam zd0 fns meths zdx) zap &&
 zhg K (meA K cls "diff_compute") yX zZ (zd5 yX zZ zbt fns meths zb1) zY &&
 zhg K (meA K cls "diff_bisect") zal yQ (zd5 zal yQ zci fns meths zcc) yL &&
 zhg K (meA K cls "diff_bisectSplit") zI zA (zd5 zI zA zac fns meths zak) z7
noncomputable def zl5 (G:GS) (cls:Addr) (z:Tz) (H:Tx→Tx→Option HM→Prop):Prop:= ∀(A:Around),Lv A 20→∀t a b (Q:V→Mem→Prop) m,a.length+b.length≤41→a≠[]→b≠[]→TZ (za2 cls) z m t→
 (∀m' r,Gr m m'→H a b r→(∀h,r=some h→HM.ok a b h)→Q (hmV r) m')→zdk G A (.ref (meA G.K cls "diff_halfMatch")) [.obj t,.str a,.str b] Q m
variable {G:GS}{A:Around}{Q:V→Mem→Prop}{m:Mem}
abbrev DmI (G:GS) (cls:Addr) (H:Tx→Tx→Option HM→Prop) (z:Tz) (j:Nat):Prop:= ∀(A:Around),Lv A (j+101)→∀f vs Q m,DmM cls H z j f vs Q m→zdk G A (.ref (meA G.K cls f)) vs Q m
theorem zp9 (B:Base G (za2 cls)) (ih:DmI G cls H z j) (lv:Lv A (j+101+1)) (env:Env):(pcD cls H z j).run G (A.deeper env):=
 zhl (B.swap rfl rfl rfl) (fun _ _ _ _ _ h=>h.elim) (fun f _ vs Q m hc=>ih _ (lv.deeper env) f vs Q m hc) fun _ _ _ _ h=>h.elim
theorem z02 (B:Base G (za2 cls)) (ih:DmI G cls H z j) (lv:Lv A (j+101+1)) (h1:zqu G.K (meA G.K cls "diff_main") [.bool true,.none] zbk zam (zd5 zbk zam zd0 G.fns G.meths zdx) zap=true)
  (hT:TZ (za2 cls) z m t) (hl:a.length+b.length≤40) (e:4 * (a.length+b.length)+4≤j+1) (q: ∀m' r L,Gr m m'→m r=none→m' r=some (.list (rv L))→MainR H a b L→Q (.obj r) m'):zdk G A (.ref (meA G.K cls "diff_main")) [.obj t,.str a,.str b,.bool false,dl] Q m:=by
 refine(zlr (P:=pcD cls H z j) (c:=3) (j:=2) B.gok B.gbi h1 lv.room (fun env=>(lv.deeper env).rm) (zp9 B ih lv) (fun _ h=>h) (fun _ h=>h) rfl rfl (Nat.le_refl _) ?_).toS
 exact zzk (n:=a.length+b.length) (zzr cls H z j) (zp7 (Nat.le_of_succ_le_succ e) hl) zm8 hT (Nat.le_refl _) hl q
theorem z15 (B:Base G (za2 cls)) (ih:DmI G cls H z j) (lv:Lv A (j+101+1)) (h2:zhg G.K (meA G.K cls "diff_compute") yX zZ (zd5 yX zZ zbt G.fns G.meths zb1) zY=true)
  (hT:TZ (za2 cls) z m t) (hl:a.length+b.length≤40) (e:4 * (a.length+b.length)+3≤j+1) (hne:a≠[]∨b≠[]) (hA:Apart a b) (q: ∀m' r L,Gr m m'→m r=none→m' r=some (.list (rv L))→CompR H a b L→Q (.obj r) m'):zdk G A (.ref (meA G.K cls "diff_compute")) [.obj t,.str a,.str b,.bool false,dl] Q m:=by
 refine(zag (P:=pcD cls H z j) B.gok B.gbi h2 lv.room (fun env=>(lv.deeper env).rm) (zp9 B ih lv) (fun _ h=>h) (fun _ h=>h) rfl ?_).toS
 have hp:0<a.length+b.length:=hne.elim (fun q=>Nat.add_pos_left (List.length_pos_iff.mpr q) _) fun q=>Nat.add_pos_right _ (List.length_pos_iff.mpr q)
 exact zul (n:=a.length+b.length-1) rfl rfl rfl (zqa (by exact zP 1502821361457153022374066833831908638606376 rfl e (Nat.sub_add_cancel (zc 5193811936278085673 rfl hp))) (by exact zf 55787216685317334406906214093864 rfl hl (Nat.sub_add_cancel (zc 5193811936278085673 rfl hp)))) zx0 (fun ha hb=>z3g (Nat.le_of_succ_le_succ e) hl (zs0 ha hb hA) ha hb) hT hne (by exact zf 4917205650991320429761579 rfl (Nat.sub_add_cancel (zc 5193811936278085673 rfl hp))) (by exact zf 55787216685317334406906214093864 rfl hl (Nat.sub_add_cancel (zc 5193811936278085673 rfl hp))) q
theorem z32 (B:Base G (za2 cls)) (ih:DmI G cls H z j) (lv:Lv A (j+101+1)) (h3:zhg G.K (meA G.K cls "diff_bisect") zal yQ (zd5 zal yQ zci G.fns G.meths zcc) yL=true)
  (hT:TZ (za2 cls) z m t) (hl:a.length+b.length≤40) (e:4 * (a.length+b.length)+2≤j+1) (hd:2≤zm a b) (h4':4≤a.length+b.length) (ha:a≠[]) (hb:b≠[]) (q: ∀m' r L,Gr m m'→m r=none→m' r=some (.list (rv L))→(HNo H a b→zhy a b→CompR H a b L)→Q (.obj r) m'):
  zdk G A (.ref (meA G.K cls "diff_bisect")) [.obj t,.str a,.str b,dl] Q m:=by
 refine(zag (P:=pcD cls H z j) B.gok B.gbi h3 lv.room (fun env=>(lv.deeper env).rm) (zp9 B ih lv) (fun _ h=>h) (fun _ h=>h) rfl ?_).toS
 have bo:=z43 hd
 refine zw9 (P:=pcD cls H z j) rfl rfl hT hd (ntr hl (by decide)) (by unfold zel;exact zf 11115633220905068558010538728767528 rfl h4' (Nat.lt_div_mul_add (by decide))) (fun e m' r g1 g2 g3=>q m' r _ g1 g2 g3 fun hH hN=>?_) fun u v m' K e' g1 hk=>?_
 ·rw[e] at bo
  exact .none ha hb hN hH e bo
 ·rw[e'] at bo
  obtain⟨x,y,rfl,rfl,hmt⟩:=bo
  exact .split (hT.gr g1) hl (Nat.le_of_succ_le_succ e) hmt fun m'' r L1 L2 g2 hf hr R1 R2=>hk _ _ (q m'' r _ (g1.trans g2) (g1.fresh hf) hr fun hH hN=> .bis hN hH e' hmt R1 R2)
theorem zy4 {x y:Nat} (B:Base G (za2 cls)) (ih:DmI G cls H z j) (lv:Lv A (j+101+1)) (h4:zhg G.K (meA G.K cls "diff_bisectSplit") zI zA (zd5 zI zA zac G.fns G.meths zak) z7=true)
  (hT:TZ (za2 cls) z m t) (hl:a.length+b.length≤40) (e:4 * (a.length+b.length)+1≤j+1) (hmt:Meet a b x y) (q: ∀m' r L1 L2,Gr m m'→m r=none→m' r=some (.list (rv (L1++L2)))→MainR H (a.take x) (b.take y) L1→MainR H (a.drop x) (b.drop y) L2→Q (.obj r) m'):
  zdk G A (.ref (meA G.K cls "diff_bisectSplit")) [.obj t,.str a,.str b,.int x,.int y,dl] Q m:=by
 refine(zag (P:=pcD cls H z j) B.gok B.gbi h4 lv.room (fun env=>(lv.deeper env).rm) (zp9 B ih lv) (fun _ h=>h) (fun _ h=>h) rfl ?_).toS
 have lo:=hmt.lo
 have hi:=hmt.hi
 exact z1d (n:=a.length+b.length-1) (zqa (by exact zP 1502821361457153022374066833830809126978600 rfl e (Nat.sub_add_cancel (zP 14836983365890994607145 rfl hi))) (by exact zf 55787216685317334406906214093864 rfl hl (Nat.sub_add_cancel (zP 14836983365890994607145 rfl hi)))) hT hmt (by exact zf 4917205650991320429761579 rfl (Nat.sub_add_cancel (zP 14836983365890994607145 rfl hi))) (by exact zf 55787216685317334406906214093864 rfl hl (Nat.sub_add_cancel (zP 14836983365890994607145 rfl hi))) q
theorem zt8 (B:Base G (za2 cls)) (hc:zio G.K cls G.fns G.meths=true) (h:zru G.K cls G.fns G.meths=true) (hh:zl5 G cls z H) (ih: ∀i,j=i+1→DmI G cls H z i):DmI G cls H z j:=by
 obtain⟨h,h4⟩:=zb h
 obtain⟨h,h3⟩:=zb h
 obtain⟨h1,h2⟩:=zb h
 intro A lv f vs Q m hm
 have su: ∀{n i},n+(i+1)≤j→∃k,j=k+1:=fun {n i} e=>⟨j-1,(Nat.succ_pred_eq_of_pos (Nat.lt_of_lt_of_le (Nat.succ_pos _) e)).symm⟩
 have lw: ∀{k},j=k+1→Lv A (k+101+1):=fun e=>lv.less (by subst e;exact Nat.le_of_eq (Nat.add_right_comm _ _ _))
 cases hm with
 | cm hm=>exact zox B hc 100 A (lv.less (Nat.le_add_left _ _)) f vs Q m hm
 | half hl ha hb hT q=>exact hh A (lv.less (ntr (by decide) (Nat.le_add_left _ _))) _ _ _ Q m hl ha hb hT q
 | main hT hl e q=>obtain⟨k,r⟩:=su e;exact z02 B (ih k r) (lw r) h1 hT hl (r▸e) q
 | comp hT hl e hne hA q=>obtain⟨k,r⟩:=su e;exact z15 B (ih k r) (lw r) h2 hT hl (r▸e) hne hA q
 | bis hT hl e hd h4' ha hb q=>obtain⟨k,r⟩:=su e;exact z32 B (ih k r) (lw r) h3 hT hl (r▸e) hd h4' ha hb q
 | split hT hl e hmt q=>obtain⟨k,r⟩:=su e;exact zy4 B (ih k r) (lw r) h4 hT hl (r▸e) hmt q
theorem zo7 (B:Base G (za2 cls)) (hc:zio G.K cls G.fns G.meths=true) (h:zru G.K cls G.fns G.meths=true) (hh:zl5 G cls z H): ∀(j:Nat),DmI G cls H z j
 | 0=>zt8 B hc h hh fun _ e=>nomatch e
 | j+1=>zt8 B hc h hh fun i e=>by cases e;exact zo7 B hc h hh j
end
noncomputable def zfd:List Str:=["self","diffs"]
noncomputable def zdz:List Str:=["text","op","data"]
noncomputable def zg7:List (Str×NameKind):=[]
noncomputable def zg2:List Str:=[]
noncomputable def zjt:List Sm:=[
  .ife (.cmp (.var 3) [.NotEq] [.attr (.var 0) "DIFF_INSERT"]) [
   .expr (.me (.var 2) .append [.var 4])] []]
noncomputable def zd1:List Sm:=[
  .assign [.var 2] (.list []),
  .fr (.tup [3,4]) (.var 1) zjt,
  .ret (.me (.lit (.str [])) .join [.var 2])]
noncomputable def zfc:List Str:=["self","diffs"]
noncomputable def zdy:List Str:=["text","op","data"]
noncomputable def zhf:List (Str×NameKind):=[]
noncomputable def zg0:List Str:=[]
noncomputable def zjv:List Sm:=[
  .ife (.cmp (.var 3) [.NotEq] [.attr (.var 0) "DIFF_DELETE"]) [
   .expr (.me (.var 2) .append [.var 4])] []]
noncomputable def zd2:List Sm:=[
  .assign [.var 2] (.list []),
  .fr (.tup [3,4]) (.var 1) zjv,
  .ret (.me (.lit (.str [])) .join [.var 2])]
section
variable {P:PC}{Q:V→Mem→Prop}{t d:Addr}{a b:Tx}{m:Mem}{r:Row}{z:Tz}
noncomputable def ze3 (k:Int) (r:Row):List Tx:=(r.filter fun p=>decide (p.1≠k)).map (·.2)
theorem zj1 (k:Int) (p:zG) (r:Row):ze3 k (p::r)=if p.1=k then ze3 k r else p.2::ze3 k r:=by
 unfold ze3
 rw[List.filter_cons]
 by_cases q:p.1=k
 ·rw[if_pos q,if_neg (by simp[q])]
 ·rw[if_neg q,if_pos (by simp[q])];rfl
theorem zgw {k:Int} (hk:k=-1∨k=1): ∀{r:Row},zk r→(ze3 k r).flatten=z4 (-k) r∧(ze3 k r).length≤r.length∧(ze3 k r).flatten.length≤phi r
 | [],_=>⟨rfl,Nat.le_refl _,Nat.zero_le _⟩
 | p::r,h=>by
  obtain⟨i1,i2,i3⟩:=zgw hk h.tail
  rw[zj1,zh]
  unfold z4
  by_cases q:p.1=k
  ·rw[if_pos q,if_neg (by rcases hk with e | e<;>grind)]
   exact⟨i1,Nat.le_succ_of_le i2,by exact zf 5224783602445255208 rfl i3⟩
  ·rw[if_neg q,if_pos (by rcases h.head with e | e | e<;>rcases hk with e' | e'<;>lia)]
   refine⟨by rw[List.flatten_cons,i1],by simp only[List.length_cons];exact zc 4653379542772679208 rfl i2,?_⟩
   rw[List.flatten_cons,List.length_append];exact zf 5350178409015476290088 rfl i3
theorem zwp {k:Int}{n:String} (hk:k=-1∨k=1) (hT:zd6 P m t) (hm:m d=some (.list (rv r))) (hK:zk r) (hφ:phi r≤1000) (hf:zge n=true) (hc:P.cc n=some (.int k)) (h: ∀m',Gr m m'→Q (.str (z4 (-k) r)) m'):
  zs P [.assign [.var 2] (.list []),
  .fr (.tup [3,4]) (.var 1) [.ife (.cmp (.var 3) [.NotEq] [.attr (.var 0) n]) [
   .expr (.me (.var 2) .append [.var 4])] []],
  .ret (.me (.lit (.str [])) .join [.var 2])] (fun fl σ'=>Q (retV fl) σ'.mem) ⟨[V.obj t,.obj d].map some++List.replicate 3 none,m⟩:=by
 have hL:=llp r
 obtain⟨p1,p2,p3⟩:=zgw hk hK
 show zs P _ _ ⟨[some (.obj t),some (.obj d),none,none,none],m⟩
 refine za fun Q1 n1 r1=>?_
 walk_at "D"
 intro l hl
 refine n1 _ (za fun Q2 n2 r2=>?_)
 have gl:=Gr.new hl (.list [])
 have hl1:upd m l (.list []) l=some (.list ([]:List V)):=ups _ _ _
 generalize hm1:upd m l (.list [])=m1 at *
 have hd1:m1 d=some (.list (rv r)):=gl _ _ hm
 have hne:l≠d:=fun e=>by subst e;rw[hm] at hl;exact(Option.some_ne_none _ hl).elim
 simp only[r_sfr]
 walk_at "D"
 refine zuf hd1 (by exact zc 1231896754496193008760783400 rfl hφ hL) ?_
 refine zex pv (fun l' σ=> ∃pre x y m',σ=⟨[some (.obj t),some (.obj d),some (.obj l),x,y],m'⟩∧r=pre++l'∧Ext l m1 m'∧m' l=some (.list ((ze3 k pre).map V.str))∧m' d=some (.list (rv r)))
  (fun l' σ i=>?_) (fun p l' σ i Q3 n3 r3=>?_) (fun σ i=>?_) r _ ⟨[],none,none,m1,rfl,rfl,.refl _ _,hl1,hd1⟩
 ·obtain⟨pre,x,y,m',rfl,_,_,_,hd⟩:=i
  exact hd
 ·obtain⟨pre,x,y,m',rfl,e,hx,h1,hd⟩:=i
  have hT':zd6 P m' t:=(hT.gr gl).ext ⟨_,hl1⟩ hx
  obtain⟨j,u⟩:=p
  have e2:r=(pre++[(j,u)])++l':=by rw[e];simp
  have ep:ze3 k (pre++[(j,u)])=ze3 k pre++if j=k then[] else[u]:=by
   unfold ze3
   rw[List.filter_append,List.map_append]
   congr 1
   by_cases q:j=k
   ·rw[if_pos q];simp[q]
   ·rw[if_neg q];simp[q]
  refine⟨rfl,?_⟩
  show zs P _ Q3 ⟨[some (.obj t),some (.obj d),some (.obj l),some (.int j),some (.str u)],m'⟩
  refine ssn (zi fun K kt kf=>?_)
  walk_at "D"
  refine zfq hT' hf hc ?_
  by_cases q:j=k
  ·subst q
   refine(show K (!decide (j=j)) _ from ?_)
   rw[decide_eq_true rfl]
   refine kf _ (zd (n3 _ ⟨pre++[(j,u)],_,_,m',rfl,e2,hx,?_,hd⟩))
   rw[ep,if_pos rfl,List.append_nil];exact h1
  ·refine(show K (!decide (j=k)) _ from ?_)
   rw[decide_eq_false q]
   refine kt _ (ssn ?_)
   walk_at "D"
   have ll:(ze3 k pre).length≤pre.length:=by unfold ze3;rw[List.length_map];exact List.length_filter_le _ _
   have l2:=congrArg List.length e
   rw[List.length_append] at l2
   refine⟨⟨_,h1⟩,_,h1,by rw[List.length_map];unfold sma;exact za9 716906324581114182722224380750522647584255771176 rfl hφ hL ll l2,n3 _ ⟨pre++[(j,u)],_,_,_,rfl,e2,hx.trans (.upd _ _ _),?_,?_⟩⟩
   ·rw[ups,ep,if_neg q,List.map_append];rfl
   ·rw[upn _ _ (Ne.symm hne)];exact hd
 ·obtain⟨pre,x,y,m',rfl,e,hx,h1,hd⟩:=i
  rw[List.append_nil] at e
  subst e
  refine n2 _ (ssn ?_)
  walk_at "D"
  refine⟨trivial,rfl,ze3 k r,h1,by exact zf 42082521515510742753343346491686650408 rfl hφ hL p2,by exact zc 5016627491188892143103441371688 rfl hφ p3,?_⟩
  rw[p1]
  exact h m' fun x o e=>hx x o (fun q=>by subst q;rw[hl] at e;exact(Option.some_ne_none _ e.symm).elim) (gl x o e)
theorem z2l (hI:P.cc "DIFF_INSERT"=some (.int 1)) (hT:zd6 P m t) (hm:m d=some (.list (rv r))) (hK:zk r) (hφ:phi r≤1000) (h: ∀m',Gr m m'→Q (.str (z4 (-1) r)) m'):
  zs P zd1 (fun fl σ'=>Q (retV fl) σ'.mem) ⟨[V.obj t,.obj d].map some++List.replicate 3 none,m⟩:=
 zwp (.inr rfl) hT hm hK hφ rfl hI h
theorem z2q (hD:P.cc "DIFF_DELETE"=some (.int (-1))) (hT:zd6 P m t) (hm:m d=some (.list (rv r))) (hK:zk r) (hφ:phi r≤1000) (h: ∀m',Gr m m'→Q (.str (z4 1 r)) m'):
  zs P zd2 (fun fl σ'=>Q (retV fl) σ'.mem) ⟨[V.obj t,.obj d].map some++List.replicate 3 none,m⟩:=
 zwp (k:=-1) (.inl rfl) hT hm hK hφ rfl hD h
end
inductive LawM (cls:Addr) (H:Tx→Tx→Option HM→Prop) (z:Tz) (Q:V→Mem→Prop) (m:Mem):String→List V→Prop
 | cm {f:String} {vs:List V}:zqf cls 100 f vs Q m→LawM cls H z Q m f vs
 | main (t:Addr) (a b:Tx):TZ (za2 cls) z m t→a.length+b.length≤40→(∀m' r L,Gr m m'→m r=none→m' r=some (.list (rv L))→MainR H a b L→Q (.obj r) m')→LawM cls H z Q m "diff_main" [.obj t,.str a,.str b,.bool false]
 | text1 (t d:Addr) (r:Row):zd6 (za2 cls) m t→m d=some (.list (rv r))→zk r→phi r≤1000→(∀m',Gr m m'→Q (.str (z4 (-1) r)) m')→LawM cls H z Q m "diff_text1" [.obj t,.obj d]
 | text2 (t d:Addr) (r:Row):zd6 (za2 cls) m t→m d=some (.list (rv r))→zk r→phi r≤1000→(∀m',Gr m m'→Q (.str (z4 1 r)) m')→LawM cls H z Q m "diff_text2" [.obj t,.obj d]
noncomputable abbrev zo5 (cls:Addr) (H:Tx→Tx→Option HM→Prop) (z:Tz) (f:String) (vs:List V) (Q:V→Mem→Prop) (m:Mem):Prop:=LawM cls H z Q m f vs
noncomputable def zx8 (K:Frag) (cls:Addr) (fns meths:List String):Bool:=
 zhg K (meA K cls "diff_text1") zfd zdz (zd5 zfd zdz zg7 fns meths zg2) zd1 &&
 zhg K (meA K cls "diff_text2") zfc zdy (zd5 zfc zdy zhf fns meths zg0) zd2
theorem zrh {G:GS}{cls:Addr}{H:Tx→Tx→Option HM→Prop}{z:Tz} (B:Base G (za2 cls)) (hc:zio G.K cls G.fns G.meths=true) (hd:zru G.K cls G.fns G.meths=true) (ht:zx8 G.K cls G.fns G.meths=true) (hh:zl5 G cls z H) {A:Around} (lv:Lv A 300):
  ∀f vs Q m,zo5 cls H z f vs Q m→zdk G A (.ref (meA G.K cls f)) vs Q m:=by
 intro f vs Q m h
 unfold zx8 at ht
 simp only[Bool.and_eq_true] at ht
 have lv1:Lv A ((164+101)+1):=lv.less (by exact zsk 44820108926715438136 rfl)
 cases h with
 | cm h=>
  exact zox B hc 100 A (lv.less (by exact zsk 170975146935352 rfl)) f vs Q m h
 | main t a b hT hl q=>
  have hd':=hd
  unfold zru at hd'
  simp only[Bool.and_eq_true] at hd'
  have run: ∀env,(pcD cls H z 164).run G (A.deeper env):=fun env=>zhl (B.swap rfl rfl rfl) (fun _ _ _ _ _ h=>h.elim) (fun f _ vs Q m hc'=>zo7 B hc hd hh 164 _ (lv1.deeper env) f vs Q m hc') (fun _ _ _ _ h=>h.elim)
  refine(zlr (P:=pcD cls H z 164) (c:=3) (j:=1) B.gok B.gbi hd'.1.1.1 lv.room (fun env=>(lv1.deeper env).rm) run (fun _ h=>h) (fun _ h=>h) rfl rfl (by decide) ?_).toS
  exact zzk (n:=a.length+b.length) (zzr cls H z 164) (zp7 (by exact zc 6924954433167550929252652168 rfl hl) hl) zm8 hT (Nat.le_refl _) hl q
 | text1 t d r hT hm hK hp q=>
  exact(zag B.gok B.gbi ht.1 lv.room (fun env=>(lv1.deeper env).rm) (fun env=>zzc B) (fun _ h=>h) (fun _ h=>h) rfl (z2l rfl hT hm hK hp q)).toS
 | text2 t d r hT hm hK hp q=>
  exact(zag B.gok B.gbi ht.2 lv.room (fun env=>(lv1.deeper env).rm) (fun env=>zzc B) (fun _ h=>h) (fun _ h=>h) rfl (z2q rfl hT hm hK hp q)).toS
section
variable {P:PC}{K:V→St→Prop}{m:Mem}{d:Addr}{R0:Row}{i:Nat}{L:List (Option V)}
theorem zmq {n n':String}{v:V}: ∀{fs:List (Str×V)},yT n' (zns n v fs)=if Str.ofString n=Str.ofString n' then some v else yT n' fs
 | []=>by
  unfold zns yT
  split<;>rfl
 | (x,u)::r=>by
  unfold zns
  by_cases q:x=Str.ofString n
  ·rw[if_pos q]
   unfold yT
   rw[q]
   by_cases z:Str.ofString n=Str.ofString n'
   ·rw[if_pos z,if_pos z]
   ·rw[if_neg z,if_neg z,if_neg z]
  ·rw[if_neg q]
   unfold yT
   rw[zmq]
   by_cases z:x=Str.ofString n'
   ·rw[if_pos z,if_pos z,if_neg fun w=>q (z.trans w.symm)]
   ·rw[if_neg z,if_neg z]
end
noncomputable def GS.with (G:GS) (c:Addr) (o:Obj):GS:={G with keep:=z0 G.keep c o}
theorem GS.with_ok {G:GS}{c:Addr}{o:Obj} (h:G.ok):(G.with c o).ok:=⟨h.g,h.b,h.lim,h.k⟩
theorem GS.with_bi {G:GS}{c:Addr}{o:Obj} (h:G.bi):(G.with c o).bi:=⟨h.bi⟩
theorem Base.with {G:GS}{P:PC} (b:Base G P) (c:Addr) (o:Obj):Base (G.with c o) P:=⟨GS.with_ok b.gok,GS.with_bi b.gbi,⟨b.pc.hd,b.pc.get,b.pc.cc,b.pc.set,b.pc.over⟩,b.fns,b.meths⟩
abbrev selfS:Str:="self"
theorem zit {x:Str}{c:Value}: ∀{l:List (Str×Value)},(l.map (·.1)).Nodup→(x,c)∈l→l.lookup x=some c
 | [],_,h=>by cases h
 | (y,d)::l,hn,h=>by
  rw[List.map_cons,List.nodup_cons] at hn
  rcases List.mem_cons.mp h with e | h
  ·cases e;rw[List.lookup_cons,beq_self_eq_true]
  ·have:x≠y:=fun q=>hn.1 (List.mem_map.mpr ⟨(x,c),h,q⟩)
   rw[List.lookup_cons,beq_eq_false_iff_ne.mpr this]
   exact zit hn.2 h
theorem zjc: ∀(ps:List Str) (cs:List Value),((ps.zip cs).map (·.1)).Sublist ps
 | [],_=>List.Sublist.refl _
 | _::_,[]=>List.nil_sublist _
 | p::ps,c::cs=>(zjc ps cs).cons_cons p
theorem zro {ps:List Str} (hn:ps.Nodup) {cs:List Value}{i:Nat}{x:Str}{c:Value} (hp:ps[i]? =some x) (hc:cs[i]? =some c):(ps.zip cs).reverse.lookup x=some c:=by
 have hmem:(x,c)∈(ps.zip cs).reverse:=List.mem_reverse.mpr (List.mem_of_getElem? (i:=i) (List.getElem?_zip_eq_some.mpr ⟨hp,hc⟩))
 refine zit ?_ hmem
 rw[List.map_reverse]
 exact(List.reverse_perm _).nodup_iff.mpr (hn.sublist (zjc _ _))
noncomputable def zcj (xs:List Str) (x:Str) (c:Addr):List (Str×VK):=(x,.ref c)::xs.map (·,.loc)
theorem z5 {xs:List Str}{x y:Str}{c:Addr}{i:Nat}{k:VK} (h:(zcj xs x c)[i]? =some (y,k)):(i=0∧y=x∧k= .ref c)∨∃j,i=j+1∧xs[j]? =some y∧k= .loc:=by
 unfold zcj at h
 cases i with
 | zero=>cases h;exact .inl ⟨rfl,rfl,rfl⟩
 | succ j=>
  rw[List.getElem?_cons_succ,List.getElem?_map,Option.map_eq_some_iff] at h
  obtain⟨z,a,b⟩:=h
  cases b
  exact .inr ⟨j,rfl,a,rfl⟩
noncomputable def zry (xs:List Str) (names:List (Str×NameKind)) (fns meths:List String):SC:=⟨(selfS,true)::xs.map (·,false),names,fns,meths,[]⟩
noncomputable def z7q (xs:List Str):Bool:=xs.all fun x=>!(x==("__debug__":Str))&&!(x==("__classdict__":Str))
noncomputable def zuq (sc:Scope) (xs:List Str) (names:List (Str×NameKind)) (k:NameKind):Bool:=
 zkq (selfS::xs)&&(z7q (selfS::xs)&&(xs.all (fun x=>sc.names.lookup x==some .local)&&(sc.names.lookup selfS==some k&&(names.all (fun p=>sc.names.lookup p.1==some p.2)&&sc.kind== .function))))
theorem zzm {env:Env}{xs:List Str}{names:List (Str×NameKind)}{k:NameKind}{c:Addr}{fns meths:List String}{G:GS} (h:zuq env.scope xs names k=true) (hk:k= .cell∨k= .free) (hg:env.globals=mainGlobals) (hb:env.builtins=builtinsNs) (hc:env.cells.lookup selfS=some c)
  (hf: ∀n,n∈fns→n∈G.fns) (hm: ∀n,n∈meths→n∈G.meths):FE.ok ⟨env,zcj xs selfS c⟩∧(zry xs names fns meths).ok G ⟨env,zcj xs selfS c⟩:=by
 obtain⟨h1,h⟩:=zb h
 obtain⟨h2,h⟩:=zb h
 obtain⟨h3,h⟩:=zb h
 obtain⟨h4,h⟩:=zb h
 obtain⟨h5,h6⟩:=zb h
 have nd:=zcw h1
 have dbg: ∀x,x∈selfS::xs→(x==("__debug__":Str))=false∧(x==("__classdict__":Str))=false:=fun x hx=>by
  have:=zb (List.all_eq_true.mp h2 x hx)
  exact⟨(Bool.not_eq_true' _).mp this.1,(Bool.not_eq_true' _).mp this.2⟩
 have nm: ∀{i:Nat} {y:Str} {k:VK},(zcj xs selfS c)[i]? =some (y,k)→(selfS::xs)[i]? =some y:=fun {i y k} e=>by
  rcases z5 e with ⟨rfl,rfl,_⟩ | ⟨j,rfl,e,_⟩
  ·rfl
  ·exact e
 refine⟨⟨beq_iff_eq.mp h6,hg,hb,?_,?_,?_,?_,?_,?_⟩,⟨(fun _ _ h=>nomatch h),hf,hm,?_,?_⟩⟩
 ·intro i y e
  rcases z5 e with ⟨_,_,e⟩ | ⟨j,_,e,_⟩
  ·cases e
  ·exact beq_iff_eq.mp (List.all_eq_true.mp h3 y (List.mem_of_getElem? e))
 ·intro i y d e
  rcases z5 e with ⟨_,_,e⟩ | ⟨j,_,_,e⟩<;>cases e
 ·intro i y d e
  rcases z5 e with ⟨_,rfl,e2⟩ | ⟨j,_,_,e2⟩
  ·cases e2
   refine⟨?_,hc⟩
   have:=beq_iff_eq.mp h4
   rcases hk with rfl | rfl
   ·exact .inl this
   ·exact .inr this
  ·cases e2
 ·intro i j y k k' e1 e2
  have e1:=nm e1
  obtain⟨hi,_⟩:=List.getElem?_eq_some_iff.mp e1
  exact(List.getElem?_inj hi nd).mp (e1.trans (nm e2).symm)
 ·intro i j y z d e
  rcases z5 e with ⟨_,_,e⟩ | ⟨j,_,_,e⟩<;>cases e
 ·intro i y k e
  exact dbg y (List.mem_of_getElem? (nm e))
 ·intro i y r e
  cases i with
  | zero=>cases e;exact⟨.ref c,rfl,fun q=>nomatch q⟩
  | succ j=>
   have e:(xs.map (·,false))[j]? =some (y,r):=e
   rw[List.getElem?_map,Option.map_eq_some_iff] at e
   obtain⟨z,a,b⟩:=e
   cases b
   refine⟨.loc,?_,fun _ d q=>nomatch q⟩
   show(xs.map (·,VK.loc))[j]? =_
   rw[List.getElem?_map,a];rfl
 ·intro y hy
  exact beq_iff_eq.mp (List.all_eq_true.mp h5 _ (zff hy))
theorem Rp.less {G G':GS}{frz frz':Frz}{m m':Mem}{s s':Shared} (r:Rp G frz m s) (r':Rp G' frz' m' s') (hs0:G'.s0=G.s0) (hb:G'.base=G.base) (up: ∀b o,frz b=some o→frz' b=some o):Rp G frz m' s':=by
 refine⟨by rw[←hs0];exact r'.same,r.hbase,r.hkeep,fun b o e=>r'.hfrz _ _ (up _ _ e),r'.hmem,fun a o e=>?_,by rw[←hb];exact r'.hsz⟩
 cases q:frz a with
 | none=>rfl
 | some x=>have:=r'.hmemF a o e;rw[up a x q] at this;cases this
section
variable {G:GS}{A:Around}
theorem zx1 {fd:FuncData}{f c a:Addr}{fo co:Obj}{body:List Stmt}{ps rest:List Str}{names:List (Str×NameKind)}{fns meths:List String}{mine:List Sm}{P:PC}{vs:List V}{m:Mem}{Q:V→Mem→Prop}
  (gok:G.ok) (gbi:G.bi) (hk:G.keep c=some co) (hco:co.data= .cell (some (.ref a))) (hm:m f=some (.fn fo)) (hfd:fo.data= .func fd)
  (hpar:zrp fd.params ps=true) (hdf:fd.defaults= .none) (hclo:fd.closure=[(selfS,c)]) (hgl:fd.globals=mainGlobals) (hbu:fd.builtins=builtinsNs) (hsc:zuq fd.scope (ps++rest) names .free=true) (hce:fd.scope.names.all (fun p=>!(p.2== .cell))=true) (h5:fd.scope.isCoroutine=false) (h6:fd.scope.isGenerator=false)
  (hbody:fd.body= .stmts body) (chk:zc6 (zry (ps++rest) names fns meths) mine body=true) (hd:A.depth<recursionLimit) (hA: ∀env,Rm (A.deeper env)) (hP: ∀env,P.run G (A.deeper env))
  (hf: ∀n,n∈fns→n∈G.fns) (hmm: ∀n,n∈meths→n∈G.meths) (hl:vs.length=ps.length)
  (w:zs P mine (fun fl σ'=>Q (retV fl) σ'.mem) ⟨some (.obj a)::(vs.map some++List.replicate rest.length none),m⟩):zjb G A (.ref f) vs Q m:=by
 intro frz s cvs r hv
 have gf:s.heap.get? f=some fo∧s.heap.CodeRec fd.code fd.qualname:=by
  cases r.hmem _ _ hm with
  | fn g d e x i=>
   rw[hfd] at d
   cases d
   obtain⟨ys,t,i1,i2⟩:=i
   exact⟨g,_,_,ys,t,e,x,i1,i2⟩
 have hz:=hv.length
 have nd:=(List.nodup_cons.mp (zcw (zb hsc).1)).2
 have ndp:=(List.nodup_append.mp nd).1
 have hlo: ∀x,x∈ps++rest→fd.scope.names.lookup x=some .local:=fun x hx=>beq_iff_eq.mp (List.all_eq_true.mp (zb (zb (zb hsc).2).2).1 x hx)
 have hfn:fd.scope.kind= .function:=beq_iff_eq.mp (zb (zb (zb (zb (zb hsc).2).2).2).2).2
 refine codeAny_call_def hd gf.1 hfd (gok.lim.keeps fun b o e=>r.hfrz _ _ (r.hbase _ _ e)) gf.2 hbody (zfl (c:=ps.length) (j:=0) (ds:=[]) hpar (.inl ⟨hdf,rfl⟩) ndp (by rw[hz,hl,Nat.zero_add]) rfl (Nat.le_refl _)) ?_ ?_ (fun h₀ hns hkeep=>?_) h5 h6 hfn
 ·intro x hx e
  have:=List.all_eq_true.mp hce x hx
  rw[e] at this;cases this
 ·intro x hx
  exact hlo _ (List.mem_append_left _ (List.of_mem_zip hx).1)
 ·rw[show cvs++List.drop 0 ([]:List Value)=cvs from List.append_nil _] at *
  have tk0:TK s.heap h₀:= .of hkeep
  have env_c:(callEnv fd s.heap.objs.size f).cells.lookup selfS=some c:=by
   show fd.closure.lookup selfS=_
   simp only[hclo,List.lookup_cons,beq_self_eq_true]
  obtain⟨ok,cok⟩:=zzm (G:=G) (env:=callEnv fd s.heap.objs.size f) (fns:=fns) (meths:=meths) hsc (.inr rfl) hgl hbu env_c hf hmm
  have r0:Rep G ⟨callEnv fd s.heap.objs.size f,zcj (ps++rest) selfS c⟩ frz ⟨some (.obj a)::(vs.map some++List.replicate rest.length none),m⟩ {s with heap:=h₀,toks:=s.toks+(ps.zip cvs).length}:=by
   refine⟨let ⟨_,_,e⟩:=r.same;⟨h₀,_,by rw[e]⟩,r.hbase,r.hkeep,fun b o e=>hkeep b o (r.hfrz b o e),fun b o e=>(r.hmem b o e).keep tk0 (hkeep b),r.hmemF,r.hsz,(r.none_of_ge (Nat.le_refl _)).2,(r.none_of_ge (Nat.le_refl _)).1,?_,?_,?_⟩
   ·refine⟨_,hns,fun i y v hx hv'=>?_⟩
    rcases z5 hx with ⟨_,_,e⟩ | ⟨j,rfl,e,_⟩
    ·cases e
    ·simp only[List.getElem?_cons_succ] at hv'
     by_cases hj:j<ps.length
     ·rw[List.getElem?_append_left hj] at e
      rw[List.getElem?_append_left (by rw[List.length_map,hl];exact hj),List.getElem?_map,Option.map_eq_some_iff] at hv'
      obtain⟨u,hu,e2⟩:=hv'
      cases e2
      obtain⟨cv,a1,a2⟩:=hv.get hu
      exact⟨cv,zro ndp e a1,a2.tk tk0⟩
     ·rw[List.getElem?_append_right (by rw[List.length_map,hl];exact Nat.le_of_not_lt hj),List.getElem?_replicate] at hv'
      split at hv'<;>cases hv'
   ·intro i y d hx
    rcases z5 hx with ⟨_,_,e⟩ | ⟨j,_,_,e⟩<;>cases e
   ·intro i y d hx
    rcases z5 hx with ⟨rfl,rfl,e⟩ | ⟨j,_,_,e⟩
    ·cases e
     exact⟨co,_,r.hkeep _ _ hk,hco,fun v hv'=>by cases hv';exact⟨_,rfl,.obj a⟩⟩
    ·cases e
  exact(zwh mine _ _ ⟨gok,gbi,hA _,hP _,ok,cok⟩ body chk _ _ w).then r0 fun cf fl σ₁ s₁ a1 r1 t1 w1=>⟨retV fl,_,zoh a1,r1.rp,tk0.trans t1,w1⟩
end
noncomputable def zrv (names:List (Str×NameKind)):List Str:=names.filterMap fun p=>if p.2== .cell then some p.1 else none
theorem zkg: ∀(names:List (Str×NameKind)) (n:Nat) (acc:List (Str×Addr)),zrv names=[]→cellsFrom n names acc=acc
 | [],_,_,_=>rfl
 | (x,k)::r,n,acc,h=>by
  unfold zrv at h
  rw[List.filterMap_cons] at h
  unfold cellsFrom
  cases hk:k==NameKind.cell with
  | true=>simp only[hk,if_true] at h;cases h
  | false=>
   simp only[hk,Bool.false_eq_true,if_false] at h
   exact zkg r n acc h
theorem zl4 {x:Str}: ∀(names:List (Str×NameKind)) (n:Nat),zrv names=[x]→cellsFrom n names []=[(x,n)]
 | [],_,h=>nomatch h
 | (y,k)::r,n,h=>by
  unfold zrv at h
  rw[List.filterMap_cons] at h
  unfold cellsFrom
  cases hk:k==NameKind.cell with
  | true=>
   simp only[hk,if_true] at h
   obtain⟨rfl,h2⟩:=List.cons.inj h
   exact zkg r (n+1) [(y,n)] h2
  | false=>
   simp only[hk,Bool.false_eq_true,if_false] at h
   exact zl4 r n h
section
variable {G:GS}{A:Around}
theorem zzj {frz:Frz}{c:Addr}{co:Obj} (n2:frz c=none): ∀b o,frz b=some o→z0 frz c co b=some o:=fun b o e=>by
 unfold z0
 rw[if_neg (fun q=>by subst q;rw[n2] at e;cases e)];exact e
theorem zx2 {frz:Frz}{m:Mem}{s:Shared}{env:Env}{c a:Addr}{co:Obj}{h₁:Heap}{tk:Nat}{ps rest:List Str}{vs:List V}{cvs:List Value}{nm:Str→Option Value}
  (r:Rp G frz m s) (hkeep: ∀b o,s.heap.get? b=some o→h₁.get? b=some o) (gco:h₁.get? c=some co) (dco:co.data= .cell (some (.ref a))) (nL:m env.locals=none∧frz env.locals=none) (n1:m c=none) (n2:frz c=none) (hLc: ¬env.locals=c) (hs:G.base.objs.size≤env.locals)
  (hns:h₁.Ns env.locals nm) (hnm: ∀(j:Nat) y cv,ps[j]? =some y→cvs[j]? =some cv→nm y=some cv) (hvs:RVs s.heap cvs vs) (hl:vs.length=ps.length):
  Rep (G.with c co) ⟨env,zcj (ps++rest) selfS c⟩ (z0 frz c co) ⟨some (.obj a)::(vs.map some++List.replicate rest.length none),m⟩ {s with heap:=h₁,toks:=tk} where
 same:=let ⟨_,_,e⟩:=r.same;⟨h₁,_,by rw[e];rfl⟩
 hbase:=fun b o e=>zzj n2 b o (r.hbase b o e)
 hkeep:=fun b o e=>by
  replace e:z0 G.keep c co b=some o:=e
  unfold z0 at e ⊢
  by_cases q:b=c
  ·rw[if_pos q] at e ⊢;exact e
  ·rw[if_neg q] at e ⊢;exact r.hkeep b o e
 hfrz:=fun b o e=>by
  unfold z0 at e
  by_cases q:b=c
  ·rw[if_pos q] at e
   subst q;cases e;exact gco
  ·rw[if_neg q] at e;exact hkeep b o (r.hfrz b o e)
 hmem:=fun b o e=>(r.hmem b o e).keep (.of hkeep) (hkeep b)
 hmemF:=fun b o e=>(if_neg (fun q=>by subst q;rw[show m _=some o from e] at n1;cases n1)).trans (r.hmemF b o e)
 hab:=hs
 hlf:=(if_neg hLc).trans nL.2
 hlm:=nL.1
 hns:=by
  refine⟨_,hns,fun i y v hx hv'=>?_⟩
  rcases z5 hx with ⟨_,_,e⟩ | ⟨j,rfl,e,_⟩
  ·cases e
  ·rw[List.getElem?_cons_succ] at hv'
   by_cases hj:j<ps.length
   ·rw[List.getElem?_append_left hj] at e
    rw[List.getElem?_append_left (by rw[List.length_map,hl];exact hj),List.getElem?_map,Option.map_eq_some_iff] at hv'
    obtain⟨u,hu,e2⟩:=hv'
    cases e2
    obtain⟨cv,a1,a2⟩:=hvs.get hu
    exact⟨cv,hnm _ _ _ e a1,a2.tk (.of hkeep)⟩
   ·rw[List.getElem?_append_right (by rw[List.length_map,hl];exact Nat.le_of_not_lt hj),List.getElem?_replicate] at hv'
    by_cases q:j-(vs.map some).length<rest.length
    ·rw[if_pos q] at hv';cases hv'
    ·rw[if_neg q] at hv';cases hv'
 hown:=fun i y d hx=>by
  rcases z5 hx with ⟨_,_,e⟩ | ⟨j,_,_,e⟩<;>cases e
 href:=fun i y d hx=>by
  rcases z5 hx with ⟨rfl,rfl,e⟩ | ⟨j,_,_,e⟩
  ·cases e
   exact⟨co,_,if_pos rfl,dco,fun v hv'=>by cases hv';exact⟨_,rfl,.obj a⟩⟩
  ·cases e
theorem zuw {fd:FuncData}{f a:Addr}{body:List Stmt}{ps rest:List Str}{names:List (Str×NameKind)}{vs:List V}{m:Mem}{Q:V→Mem→Prop}
  (gok:G.ok) (hfd:z4x G.K f=some fd) (F:FdOk G.K fd (selfS::ps)) (hdf:fd.defaults= .none) (hclo:fd.closure=[]) (hcell:zrv fd.scope.names=[selfS]) (hsc:zuq fd.scope (ps++rest) names .cell=true) (hbody:fd.body= .stmts body) (hd:A.depth<recursionLimit) (hl:vs.length=ps.length)
  (h: ∀(L c:Addr) (co:Obj),co.data= .cell (some (.ref a))→(callEnvC fd L f).cells.lookup selfS=some c→WF (G.with c co) (A.deeper (callEnvC fd L f)) ⟨callEnvC fd L f,zcj (ps++rest) selfS c⟩ (execs body (callEnvC fd L f)) (fun fl σ'=>Q (retV fl) σ'.mem)
   ⟨some (.obj a)::(vs.map some++List.replicate rest.length none),m⟩):zjb G A (.ref f) (.obj a::vs) Q m:=by
 obtain⟨o,hK,hdt⟩:=zqb hfd
 have ndx:=zcw (zb hsc).1
 obtain⟨nx,nd⟩:=List.nodup_cons.mp ndx
 have ndp:(selfS::ps).Nodup:=List.nodup_cons.mpr ⟨fun q=>nx (List.mem_append_left _ q),(List.nodup_append.mp nd).1⟩
 have hlo: ∀x,x∈ps++rest→fd.scope.names.lookup x=some .local:=fun x hx=>beq_iff_eq.mp (List.all_eq_true.mp (zb (zb (zb hsc).2).2).1 x hx)
 have hse:fd.scope.names.lookup selfS=some .cell:=beq_iff_eq.mp (zb (zb (zb (zb hsc).2).2).2).1
 intro frz s cvs r hv
 have kin:G.K.In s.heap:=fun a o e=>r.hfrz _ _ (r.hbase _ _ (gok.k a o e))
 have hlim:s.heap.NoLimit:=gok.lim.keeps fun b o e=>r.hfrz _ _ (r.hbase _ _ e)
 cases hv with
 | cons hva hvs=>
 cases hva
 rename_i cvs
 have hz:=hvs.length
 refine codeAny_call_function hd (kin _ _ hK) hdt F.co F.ge hbody (codeRec_of kin F.code) ?_
 refine zfl (c:=ps.length+1) (j:=0) (ds:=[]) F.par (.inl ⟨hdf,rfl⟩) ndp (by rw[List.length_cons,hz,hl,Nat.zero_add]) (by rw[List.length_cons];rfl) (Nat.le_refl _) _ _ _ _ ?_
 rw[hclo,show(Value.ref a::cvs)++List.drop 0 ([]:List Value)= .ref a::cvs from List.append_nil _]
 refine wpAny_newFunctionEnv_cells F.fn ?_ fun env he s₁ x=>?_
 ·intro y hy
  rw[List.zip_cons_cons] at hy
  rcases List.mem_cons.mp hy with rfl | hy
  ·exact .inr ⟨hse,zcx _ _ _ hse⟩
  ·exact .inl (hlo _ (List.mem_append_left _ (List.of_mem_zip hy).1))
 ·subst he
  refine⟨hlim.keeps x.toInCall.keep,codeAny_func ?_⟩
  have hkeep:=x.toInCall.keep
  obtain⟨h₁,tk,rfl,_⟩:=x.done
  have tk0:TK s.heap h₁:= .of hkeep
  have hlook:(callEnvC fd s.heap.objs.size f).cells.lookup selfS=some (s.heap.objs.size+1):=by
   show(cellsFrom (s.heap.objs.size+1) fd.scope.names []).lookup selfS=_
   rw[zl4 _ _ hcell,List.lookup_cons,beq_self_eq_true]
  obtain⟨co,gco,dco⟩:=x.cell selfS _ hlook
  have dco':co.data= .cell (some (.ref a)):=by
   rw[dco]
   exact congrArg Data.cell (zi1 (ps:=selfS::ps) (cs:= .ref a::cvs) (i:=0) ndp rfl rfl (by show ¬fd.scope.names.lookup selfS=_;rw[hse];decide))
  obtain⟨n1,n2⟩:=r.none_of_ge (Nat.le_succ s.heap.objs.size)
  have r0:=zx2 (env:=callEnvC fd s.heap.objs.size f) (tk:=tk) (rest:=rest) r hkeep gco dco' (r.none_of_ge (Nat.le_refl _)) n1 n2 (Nat.ne_of_lt (Nat.lt_succ_self _)) r.hsz x.toInCall.ns
   (fun j y cv e a1=>zin (ps:=selfS::ps) (cs:= .ref a::cvs) (i:=j+1) ndp e a1 (hlo y (List.mem_append_left _ (List.mem_of_getElem? e)))) hvs hl
  exact(h s.heap.objs.size (s.heap.objs.size+1) co dco' hlook).then r0 fun cf fl σ₁ s₁ a1 r1 t1 w1=>⟨retV fl,_,zoh a1,r.less r1.rp rfl rfl (zzj n2),tk0.trans t1,w1⟩
theorem z5y {P:PC}:(x:Sm)→SS G A P x:=Sm.rec (motive_1:=SS G A P) (motive_2:=SB G A P)
 (fun _=>ztw) (fun _ _=>zm1) (fun _ _ _=>z0i) (fun _ _=>zzv) (fun _ _ _ ia ib=>zzg ia ib) (fun _ _ ib=>z0n ib) (fun _ _ _ ib=>z5o ib) (fun _=>zz9) z0m
 (fun _ _ _ _ h=>absurd h Bool.false_ne_true) zz5 (fun _ _ ix is=>ztr ix is)
theorem znh {Γ:FE}{C:SC}{P:PC} (X:Cx G A P Γ C) {ys:List Stmt}{Q:Fl→St→Prop}: ∀(xs:List Sm) (es:List Stmt),zc6 C xs es=true→∀{σ:St},
  zs P xs (fun fl σ'=>match fl with | .next=>WF G A Γ (execs ys Γ.env) Q σ' | .brk=>Q .brk σ' | .cont=>Q .cont σ' | .ret v=>Q (.ret v) σ') σ→WF G A Γ (execs (es++ys) Γ.env) Q σ
 | [],es,h,σ,w=>by rw[zm3 h];exact w
 | x::xs,es,h,σ,w=>by
  rcases zkf h with rfl | ⟨e,es,rfl,h1,h2⟩
  ·exact False.elim w
  intro frz s r
  rw[List.cons_append,arm_execs_cons]
  refine wpAny_bind ((z5y x _ _ X e h1 _ _ w).then r fun cf f σ₁ s₁ a1 r1 t1 w1=>?_)
  cases a1 with
  | next=>exact wpAny_mono (znh X xs _ h2 w1 frz s₁ r1) (fun f s₂ p=>p.after t1) fun _ _ x=>x
  | brk=>exact wpAny_pure ⟨_,σ₁,.brk,r1,t1,w1⟩
  | cont=>exact wpAny_pure ⟨_,σ₁,.cont,r1,t1,w1⟩
  | ret q=>exact wpAny_pure ⟨_,σ₁,.ret q,r1,t1,w1⟩
end
section
variable {G:GS}{A:Around}{Γ:FE}{frz:Frz}{σ:St}{s:Shared}
noncomputable def BM (G:GS):Prop:= ∃bm ob,G.mg "__builtins__"=some (.ref bm)∧bm≠builtinsNs∧G.base.get? bm=some ob∧ob.cls= .type "module"∧ob.dict=some builtinsNs∧ob.data= .plain
noncomputable abbrev fnM (G:GS) (name q:Str) (params:Arguments) (body:List Stmt) (scope:Scope) (clos:List (Str×Addr)) (doc:Value) (c:Addr) (ctv:Value):Obj:=fnMade name q params body scope clos doc ((G.mg "__name__").getD .none) c ctv
theorem z3z {name:Str}{params:Arguments}{body:List Stmt}{scope:Scope}{pos:Pos}{c P:Addr}{q:Str}{clos:List (Str×Addr)}{i:Nat}{k:VK}{Q:Fl→St→Prop}
  (gok:G.ok) (ok:Γ.ok) (T:BM G) (hcode:Γ.env.code= .ref c) (C:CodeHd G.base c P) (hd0:params.defaults=[]) (hk0:params.kw_defaults=[]) (ha:annTrees params none Γ.env=[])
  (hq:qualnameIn Γ.env name name=q) (hcl:closureFor scope Γ.env=pure clos) (hx:Γ.vars[i]? =some (name,k)) (hk: ∀c,k≠ .ref c) (hT:σ.mem P=some (.tab pos q))
  (w: ∀f c' ctv doc,σ.mem f=none→Q .next ((St.mk σ.loc (upd σ.mem f (.fn (fnM G name q params body scope clos doc c' ctv)))).set i (.obj f))):WF G A Γ (exec (.FunctionDef name params body [] none [] scope none name pos) Γ.env) Q σ:=by
 intro frz s r
 have kb: ∀b o,G.base.get? b=some o→s.heap.get? b=some o:=fun b o e=>r.hfrz _ _ (r.hbase _ _ e)
 have hgs:=gok.g.keeps kb
 refine bc fun z9=>?_
 obtain⟨bm,ob,b1,b2,b3,b4,b5,b6⟩:=T
 refine z9 ?_
 have notP: ∀b o,G.base.get? b=some o→b≠P:=fun b o e z=>by
  subst z
  have:=r.hbase _ _ e
  rw[r.hmemF _ _ hT] at this;exact(Option.some_ne_none _ this.symm).elim
 have hgP:mainGlobals≠P:=by
  refine bc fun z9=>?_
  obtain⟨o,es,ep,e,_⟩:=gok.g
  refine z9 ?_
  exact notP _ _ e
 have hbP:bm≠P:=notP _ _ b3
 have hbG:bm≠mainGlobals:=fun z=>by
  refine bc fun z9=>?_
  obtain⟨o,es,ep,e,hd,_⟩:=gok.g
  refine z9 ?_
  rw[z,e] at b3;cases b3;rw[hd] at b6;cases b6
 have hb: ∀h:Heap,(∀b o,G.base.get? b=some o→h.get? b=some o)→h.BuiltinsAt G.mg P:=fun h kk=>⟨bm,ob,b1,b2,hbG,hbP,kk _ _ b3,b4,b5,b6⟩
 have Cs:=C.keeps kb
 have fin: ∀f c' ctv doc h' tk,Rep G Γ frz ⟨σ.loc,upd σ.mem f (.fn (fnM G name q params body scope clos doc c' ctv))⟩ {s with heap:=h',toks:=tk}→TK s.heap h'→σ.mem f=none→
   wpAny (model G.prog G.w) A (storeName Γ.env name (.ref f)) (fun _ s''=>PF G Γ frz s Q .next s'') NoE {s with heap:=h',toks:=tk}:=fun f c' ctv doc h' tk r' t' h1=>
  wpAny_mono (zo8 ok r' hx hk (.obj f)) (fun _ s₂ ⟨r2,t2⟩=>⟨.next,_,.next,r2,t'.trans t2,w f c' ctv doc h1⟩) fun _ _ x=>x
 refine nestDef_K hd0 hk0 ha ?_
 rw[hq]
 have neL: ∀b,s.heap.objs.size≤b→b≠Γ.env.locals:=fun b hb=>Ne.symm (Nat.ne_of_lt (Nat.lt_of_lt_of_le r.lt_locals hb))
 have own: ∀b,s.heap.objs.size≤b→∀(i:Nat) x c,Γ.vars[i]? =some (x,.own c)→c≠b:=fun b hb i x c e=>by
  refine bc fun z9=>?_
  obtain⟨_,_,o',ov',g',_⟩:=r.hown i x c e
  refine z9 ?_
  exact Nat.ne_of_lt (Nat.lt_of_lt_of_le (Heap.lt_size g') hb)
 cases r.hmem _ _ hT with
 | tab0 gP=>
  refine makeFunction_K (mg:=G.mg) hcl (ok.glb) hgs hcode Cs gP trivial rfl hgP (hb _ kb) fun c' ctv doc h' tk hx' hge hlt hrec htb=>?_
  refine bc fun z9=>?_
  obtain⟨c₂,oc,vs,t,e2,hoc,hdc,hv⟩:=hrec
  refine z9 ?_
  cases e2
  have keep2: ∀b o,b≠P→s.heap.get? b=some o→(h'.push (fnM G name q params body scope clos doc c' ctv)).get? b=some o:=fun b o hb e=>Heap.get?_push_of_some _ (hx' b o hb e)
  have oc2:(h'.push (fnM G name q params body scope clos doc c' ctv)).get? c'=some oc:=Heap.get?_push_of_some _ hoc
  have co:zjg q oc:=⟨vs,t,hdc,hv⟩
  obtain⟨r1,t1⟩:=r.change ok (tk:=tk) (o:= .tab pos q) hT keep2 (fun _=> .tab1 (Heap.get?_push_of_some _ (by simpa using htb)) oc2 co)
  rw[z6q hT] at r1
  have nf:=r.none_of_ge (ntr hge (Nat.le_of_lt hlt))
  have r3:=r1.join (a:=h'.objs.size) (o:= .fn (fnM G name q params body scope clos doc c' ctv)) nf.1 nf.2 (neL _ (ntr hge (Nat.le_of_lt hlt))) (own _ (ntr hge (Nat.le_of_lt hlt))) (.fn (Heap.get?_push_size _ rfl) rfl rfl oc2 co)
  exact fin h'.objs.size c' ctv doc _ tk r3 t1 nf.1
 | @tab1 _ _ oc c' gP hoc co=>
  refine makeFunction_hit (mg:=G.mg) hcl (ok.glb) hgs hcode Cs gP (by simp[TriplesOk,rawInt]) (cv:= .ref c') (by simp[codeAmong,rawInt]) (hb _ kb) fun ctv doc h' tk hx' hge=>?_
  have keep2: ∀b o,s.heap.get? b=some o→(h'.push (fnM G name q params body scope clos doc c' ctv)).get? b=some o:=fun b o e=>Heap.get?_push_of_some _ (hx' b o e)
  have r1:=r.fresh (tk:=tk) (a:=h'.objs.size) (o:= .fn (fnM G name q params body scope clos doc c' ctv)) hge keep2 (.fn (Heap.get?_push_size _ rfl) rfl rfl (keep2 _ _ hoc) co)
  exact fin h'.objs.size c' ctv doc _ tk r1 (.of keep2) (r.none_of_ge hge).1
end
noncomputable def z63 (s t:Tx) (i:Nat):Bool:=decide (i+t.length≤s.length)&&decide ((s.drop i).take t.length=t)
theorem zep {s t:Tx}{i:Nat}:z63 s t i=true↔Occ s t i:=by unfold z63 Occ;rw[Bool.and_eq_true,decide_eq_true_eq,decide_eq_true_eq]
noncomputable def znx (s t:Tx) (k:Nat):List Nat:=(List.range' k (s.length+1-k)).filter fun i=>z63 s t i
theorem zjf {s t:Tx}{i:Nat} (h:Occ s t i):i≤s.length:=ntr (Nat.le_add_right ..) h.1
theorem zna {s t:Tx}{l:List Nat} (h: ∀i,i∈l→¬Occ s t i):l.filter (fun i=>z63 s t i)=[]:=
 List.filter_eq_nil_iff.mpr fun i hi q=>h i hi (zep.mp q)
theorem zud {s t:Tx}{k:Nat} (h: ∀i,k≤i→¬Occ s t i):znx s t k=[]:=zna fun i hi=>h i (List.mem_range'_1.mp hi).1
theorem zv2 {s t:Tx}{k j:Nat} (h1:k≤j) (h2:Occ s t j) (h3: ∀i,k≤i→i<j→¬Occ s t i):znx s t k=j::znx s t (j+1):=by
 have hj:=zjf h2
 unfold znx
 have e:List.range' k (s.length+1-k)=List.range' k (j-k)++(j::List.range' (j+1) (s.length+1-(j+1))):=by
  rw[show s.length+1-k=(j-k)+(s.length+1-j) by exact Nat.le_antisymm (zk8 1840247417940667055836230665925034911986095146 rfl (Nat.sub_add_cancel (zf 38415384512331673829928 rfl h1 hj)) (Nat.sub_add_cancel (zc 4952567644712 rfl h1)) (Nat.sub_add_cancel (zc 4544286322917928 rfl hj))) (zk8 415768602764452209471372171446733271832990763 rfl (Nat.sub_add_cancel (zf 38415384512331673829928 rfl h1 hj)) (Nat.sub_add_cancel (zc 4952567644712 rfl h1)) (Nat.sub_add_cancel (zc 4544286322917928 rfl hj))),←List.range'_append_1,show k+(j-k)=j by exact Nat.le_antisymm (zf 9804662326409303082 rfl (Nat.sub_add_cancel (zc 4952567644712 rfl h1))) (zf 5265838744531501611 rfl (Nat.sub_add_cancel (zc 4952567644712 rfl h1)))]
  congr 1
  rw[show s.length+1-j=(s.length+1-(j+1))+1 by exact Nat.le_antisymm (zP 43584184837134260905765057845057295402 rfl (Nat.sub_add_cancel (zc 4544286322917928 rfl hj)) (Nat.sub_add_cancel (zc 4653379542772679208 rfl hj))) (zP 48192713382418019668911411342591661099 rfl (Nat.sub_add_cancel (zc 4544286322917928 rfl hj)) (Nat.sub_add_cancel (zc 4653379542772679208 rfl hj))),List.range'_succ]
 simp only[e,List.filter_append,List.filter_cons_of_pos (zep.mpr h2),zna fun i hi=>h3 i (List.mem_range'_1.mp hi).1 (by have:=(List.mem_range'_1.mp hi).2;exact zP 120934581203633176983503401 rfl this (Nat.sub_add_cancel (zc 4952567644712 rfl h1)))]
 rfl
abbrev zc8:=Tx×Tx×Tx×Tx×Tx
noncomputable def com:Option zc8→Tx
 | none=>[]
 | some f=>f.2.2.2.2
noncomputable def zqn (long short:Tx) (i j:Nat):zc8:=
 (long.take (i-lcs (long.take i) (short.take j)),long.drop (i+lcp (long.drop i) (short.drop j)),short.take (j-lcs (long.take i) (short.take j)),short.drop (j+lcp (long.drop i) (short.drop j)),
   (short.drop (j-lcs (long.take i) (short.take j))).take (lcs (long.take i) (short.take j))++(short.drop j).take (lcp (long.drop i) (short.drop j)))
noncomputable def za7 (long short:Tx) (i:Nat) (acc:Option zc8) (j:Nat):Option zc8:=
 if (com acc).length<lcs (long.take i) (short.take j)+lcp (long.drop i) (short.drop j) then some (zqn long short i j) else acc
noncomputable def zcb (long:Tx) (i:Nat):Tx:=(long.drop i).take (long.length/4)
noncomputable def zhn (long short:Tx) (i:Nat):Option zc8:=(znx short (zcb long i) 0).foldl (za7 long short i) none
noncomputable def hmI (long short:Tx) (i:Nat):Option zc8:=if long.length≤(com (zhn long short i)).length * 2 then zhn long short i else none
noncomputable def zgj:Option zc8→V
 | none=> .none
 | some f=> .tup [.str f.1,.str f.2.1,.str f.2.2.1,.str f.2.2.2.1,.str f.2.2.2.2]
noncomputable def z64:List Str:=["longtext","shorttext","i"]
noncomputable def zwr:List Str:=["seed","best_common","j","prefixLength","suffixLength","best_longtext_a","best_longtext_b","best_shorttext_a","best_shorttext_b"]
noncomputable def zn2:List (Str×NameKind):=[("len",.globalImplicit)]
noncomputable def z87:List Sm:=[
  .assign [.var 5] (.bin .Add (.slc (.var 2) (.bin .Sub (.var 6) (.var 8)) (.var 6) (.lit .none)) (.slc (.var 2) (.var 6) (.bin .Add (.var 6) (.var 7)) (.lit .none))),
  .assign [.var 9] (.slc (.var 1) (.lit .none) (.bin .Sub (.var 3) (.var 8)) (.lit .none)),
  .assign [.var 10] (.slc (.var 1) (.bin .Add (.var 3) (.var 7)) (.lit .none) (.lit .none)),
  .assign [.var 11] (.slc (.var 2) (.lit .none) (.bin .Sub (.var 6) (.var 8)) (.lit .none)),
  .assign [.var 12] (.slc (.var 2) (.bin .Add (.var 6) (.var 7)) (.lit .none) (.lit .none))]
noncomputable def z7y:List Sm:=[
  .assign [.var 7] (.imeth (.var 0) "diff_commonPrefix" [.slc (.var 1) (.var 3) (.lit .none) (.lit .none),.slc (.var 2) (.var 6) (.lit .none) (.lit .none)]),
  .assign [.var 8] (.imeth (.var 0) "diff_commonSuffix" [.slc (.var 1) (.lit .none) (.var 3) (.lit .none),.slc (.var 2) (.lit .none) (.var 6) (.lit .none)]),
  .ife (.cmp (.bi .len [.var 5]) [.Lt] [.bin .Add (.var 8) (.var 7)]) z87 [],
  .assign [.var 6] (.me (.var 2) .find [.var 4,.bin .Add (.var 6) (.lit (.int 1))])]
noncomputable def zri:List Sm:=[
  .assign [.var 4] (.slc (.var 1) (.var 3) (.bin .Add (.var 3) (.bin .FloorDiv (.bi .len [.var 1]) (.lit (.int 4)))) (.lit .none)),
  .assign [.var 5] (.lit (.str [])),
  .assign [.var 6] (.me (.var 2) .find [.var 4]),
  .whl (.cmp (.var 6) [.NotEq] [.neg (.lit (.int 1))]) z7y,
  .ife (.cmp (.bin .Mult (.bi .len [.var 5]) (.lit (.int 2))) [.GtE] [.bi .len [.var 1]]) [
   .ret (.tup [.var 9,.var 10,.var 11,.var 12,.var 5])] [
   .ret (.lit .none)]]
structure CpIs (P:PC):Prop where
 p: ∀(s:V) (x y:Tx) (Q:V→Mem→Prop) (m:Mem),sma x.length→sma y.length→Q (.int (lcp x y)) m→P.meth "diff_commonPrefix" [s,.str x,.str y] Q m
 s: ∀(s:V) (x y:Tx) (Q:V→Mem→Prop) (m:Mem),sma x.length→sma y.length→Q (.int (lcs x y)) m→P.meth "diff_commonSuffix" [s,.str x,.str y] Q m
section
variable {P:PC}{Q:V→Mem→Prop}{m:Mem}{t:Addr}{long short:Tx}{i:Nat}
theorem zht {acc:Option zc8}{j:Nat} (h:(com acc).length≤short.length) (hj:j≤short.length):(com (za7 long short i acc j)).length≤short.length:=by
 unfold za7
 split
 ·have h1:=(zcg (long.take i) (short.take j)).2
  have h2:=(zV (long.drop i) (short.drop j)).2
  rw[List.length_take] at h1
  rw[List.length_drop] at h2
  show(zqn long short i j).2.2.2.2.length≤_
  unfold zqn
  dsimp only
  rw[List.length_append,List.length_take,List.length_take]
  generalize lcs (long.take i) (short.take j)=a at *
  generalize lcp (long.drop i) (short.drop j)=b at *
  exact zpr 1372597416747268026263217666195741058962853552227680808 rfl h1 h2 (Nat.min_le_left _ _) (Nat.min_le_left _ _) (Nat.min_le_left _ _) (Nat.sub_add_cancel (zc 4952567644712 rfl hj))
 ·exact h
noncomputable def mV (f:zc8→Tx) (o:Option zc8):Option V:=o.map fun x=>V.str (f x)
noncomputable abbrev hiS (t:Addr) (long short:Tx) (i:Nat) (x4 x5 x6 x7 x8 x9 x10 x11 x12:Option V) (m:Mem):St:=⟨[some (.obj t),some (.str long),some (.str short),some (.int i),x4,x5,x6,x7,x8,x9,x10,x11,x12],m⟩
noncomputable abbrev hiA (t:Addr) (long short:Tx) (i:Nat) (acc:Option zc8) (j:Int) (x7 x8:Option V) (m:Mem):St:=
 hiS t long short i (some (.str (zcb long i))) (some (.str (com acc))) (some (.int j)) x7 x8 (mV (·.1) acc) (mV (·.2.1) acc) (mV (·.2.2.1) acc) (mV (·.2.2.2.1) acc) m
inductive HW (t:Addr) (long short:Tx) (i:Nat) (m:Mem) (n:Nat) (σ:St):Prop
 | mk (j:Int) (acc:Option zc8) (x7 x8:Option V) (k:Nat):σ=hiA t long short i acc j x7 x8 m→zgd short (zcb long i) k j→(znx short (zcb long i) k).foldl (za7 long short i) acc=zhn long short i→(com acc).length≤short.length→
   n=(if j=-1 then 0 else short.length+1-j.toNat)→HW t long short i m n σ
theorem z14 {j:Nat}{acc:Option zc8}{x7 x8:Option V}{QQ:Fl→St→Prop} (hP:CpIs P) (hT:zd6 P m t) (hl:sma long.length) (hs:sma short.length) (hi:i≤long.length) (hj:j≤short.length) (hc:(com acc).length≤short.length)
  (h: ∀r x7 x8,zgd short (zcb long i) (j+1) r→QQ .next (hiA t long short i (za7 long short i acc j) r x7 x8 m)):zs P z7y QQ (hiA t long short i acc j x7 x8 m):=by
 have sm: ∀{x y:Tx},x.length≤y.length→sma y.length→sma x.length:=fun h1 h2=>ntr h1 h2
 have sd: ∀(x:Tx) (n:Nat),(x.drop n).length≤x.length:=fun x n=>by rw[List.length_drop];exact Nat.sub_le ..
 have st: ∀(x:Tx) (n:Nat),(x.take n).length≤x.length:=fun x n=>by rw[List.length_take];exact Nat.min_le_right ..
 unfold z7y
 refine za fun Q1 n1 _=>?_
 walk_at "D"
 refine⟨zr2 hT rfl,hl,?_⟩
 rw[zJ long hi]
 refine⟨hs,?_⟩
 rw[zJ short hj]
 refine hP.p _ _ _ _ _ (sm (sd _ _) hl) (sm (sd _ _) hs) (n1 _ (za fun Q2 n2 _=>?_))
 walk_at "D"
 refine⟨zr2 hT rfl,hl,?_⟩
 rw[zco long hi]
 refine⟨hs,?_⟩
 rw[zco short hj]
 refine hP.s _ _ _ _ _ (sm (st _ _) hl) (sm (st _ _) hs) (n2 _ (za fun Q3 n3 _=>zi fun K kt kf=>?_))
 walk_at "D"
 refine⟨sm hc hs,?_⟩
 have A:=zcg (long.take i) (short.take j)
 have B:=zV (long.drop i) (short.drop j)
 rw[List.length_take,List.length_take] at A
 rw[List.length_drop,List.length_drop] at B
 have step: ∀(acc':Option zc8) x7 x8,acc'=za7 long short i acc j→Q3 .next (hiA t long short i acc' j x7 x8 m):=fun acc' x7 x8 e=>by
  refine n3 _ (ssn ?_)
  walk_at "D"
  refine⟨trivial,hs,sm (st _ _) (sm (sd _ _) hl),by exact zw 4302962736 rfl,fun r hr=>?_⟩
  rw[show((j:Int)+1).toNat=j+1 by exact Nat.le_antisymm (zc 297814348454750592546 rfl (Int.toNat_of_nonneg (zw 4302962736 rfl))) (zc 334350081914524726307 rfl (Int.toNat_of_nonneg (zw 4302962736 rfl)))] at hr
  rw[e]
  exact h r _ _ hr
 by_cases hb:(com acc).length<lcs (long.take i) (short.take j)+lcp (long.drop i) (short.drop j)
 ·have ha:some (zqn long short i j)=za7 long short i acc j:=(if_pos hb).symm
  rw[decide_eq_true (show((com acc).length:Int)<(lcs (long.take i) (short.take j):Nat)+(lcp (long.drop i) (short.drop j):Nat) by exact zf 5278624153637434819113 rfl hb)]
  refine kt _ ?_
  generalize hS:lcs (long.take i) (short.take j)=S at *
  generalize hR:lcp (long.drop i) (short.drop j)=R at *
  have s1:((j:Int)-(S:Nat))=((j-S:Nat):Int):=by grind
  have s2:((i:Int)-(S:Nat))=((i-S:Nat):Int):=by grind
  have s3:((j:Int)+(R:Nat))=((j+R:Nat):Int):=rfl
  have s4:((i:Int)+(R:Nat))=((i+R:Nat):Int):=rfl
  have e9:zqn long short i j=(long.take (i-S),long.drop (i+R),short.take (j-S),short.drop (j+R),(short.drop (j-S)).take S++(short.drop j).take R):=by unfold zqn;rw[hS,hR]
  unfold z87
  refine za fun Q4 n4 _=>?_
  walk_at "D"
  rw[s1,s3,ziq short (Nat.sub_le ..) hj,ziq short (Nat.le_add_right ..) (by exact zP 120935456244064318399250984 rfl B.2 (Nat.sub_add_cancel (zc 4952567644712 rfl hj))),show j-(j-S)=S by exact Nat.le_antisymm (zP 22768606989969307449937688098 rfl s1 (Nat.sub_add_cancel (zf 2596572090296966691 rfl s1))) (zP 62227945760779415572367023651 rfl s1 (Nat.sub_add_cancel (zf 2596572090296966691 rfl s1))),Nat.add_sub_cancel_left]
  refine⟨hs,hs,sm (st _ _) (sm (sd _ _) hs),sm (st _ _) (sm (sd _ _) hs),n4 _ (za fun Q5 n5 _=>?_)⟩
  walk_at "D"
  rw[s2,zco long (by exact zP 22083859167737273609945640 rfl hi s2)]
  refine⟨hl,n5 _ (za fun Q6 n6 _=>?_)⟩
  walk_at "D"
  rw[s4,zJ long (by exact zP 120935456244064318399250984 rfl B.1 (Nat.sub_add_cancel (zc 4952567644712 rfl hi)))]
  refine⟨hl,n6 _ (za fun Q7 n7 _=>?_)⟩
  walk_at "D"
  rw[s1,zco short (by exact zP 22083859167737273609945640 rfl hj s1)]
  refine⟨hs,n7 _ (ssn ?_)⟩
  walk_at "D"
  rw[s3,zJ short (by exact zP 120935456244064318399250984 rfl B.2 (Nat.sub_add_cancel (zc 4952567644712 rfl hj)))]
  refine⟨hs,?_⟩
  have:=step (some (zqn long short i j)) (some (.int R)) (some (.int S)) ha
  rw[e9] at this
  exact this
 ·have ha:acc=za7 long short i acc j:=(if_neg hb).symm
  rw[decide_eq_false (show ¬((com acc).length:Int)<(lcs (long.take i) (short.take j):Nat)+(lcp (long.drop i) (short.drop j):Nat) by exact Int.not_lt.mpr (zf 5278615617020566705196 rfl hb))]
  exact kf _ (zd (step acc _ _ ha))
theorem z2g (hP:CpIs P) (hT:zd6 P m t) (hl:sma long.length) (hs:sma short.length) (h0:0<long.length) (hi:i+long.length/4≤long.length) (q:Q (zgj (hmI long short i)) m):
  zs P zri (fun fl σ'=>Q (retV fl) σ'.mem) ⟨some (.obj t)::([V.str long,.str short,.int i].map some++List.replicate 9 none),m⟩:=by
 have hi':i≤long.length:=ntr (Nat.le_add_right ..) hi
 show zs P _ _ (hiS t long short i none none none none none none none none none m)
 unfold zri
 refine za fun Q1 n1 r1=>?_
 walk_at "D"
 refine⟨hl,by decide,by walk_at "t",hl,?_⟩
 have e1:((i:Int)+(long.length:Int)/4)=((i+long.length/4:Nat):Int):=by grind
 rw[e1,ziq _ (Nat.le_add_right ..) hi,Nat.add_sub_cancel_left]
 refine n1 _ (za fun Q2 n2 r2=>?_)
 walk_at "D"
 refine n2 _ (za fun Q3 n3 r3=>?_)
 walk_at "D"
 refine⟨trivial,hs,by rw[List.length_take,List.length_drop];unfold sma at *;exact zf 43756489537543213166507828241583905922089512 rfl hl (Nat.div_mul_le_self _ _) (Nat.min_le_left _ _),fun r hr=>n3 _ (za fun Q4 n4 r4=>?_)⟩
 simp only[r_swhl]
 refine⟨HW t long short i m,⟨_,r,none,none,none,0,rfl,hr,rfl,Nat.zero_le _,rfl⟩,?_⟩
 rintro n σ' ⟨j,acc,x7,x8,k,rfl,hk,hf,hc,rfl⟩
 walk_at "D"
 rcases hk with ⟨rfl,hno⟩ | ⟨j,rfl,hkj,hocc,hno⟩
 ·refine zct (show(-1:Int)=-1 from rfl) (n4 _ (ssn (zi fun K kt kf=>?_)))
  rw[zud hno] at hf
  have hf:acc=zhn long short i:=hf
  walk_at "D"
  refine⟨ntr hc hs,by unfold tiny;unfold sma at hs;exact⟨zw 557856390312627249 rfl,zc 2633106174718266924715760445096439317032 rfl hs hc⟩,hl,?_⟩
  by_cases hb:long.length≤(com acc).length * 2
  ·rw[decide_eq_true (show(long.length:Int)≤(com acc).length * 2 by exact zc 5704380175971844648 rfl hb)]
   refine kt _ (ssn ?_)
   have hq:hmI long short i=acc:=by unfold hmI;rw[←hf,if_pos hb]
   rw[hq] at q
   cases acc with
   | none=>exact absurd hb (by show ¬long.length≤0 * 2;exact Nat.not_le.mpr (zw 79182495285289 rfl h0))
   | some f=>
    unfold mV
    dsimp only[r_lit,r_var,r_bin,r_neg,r_not,r_list,r_tup,r_cmp,r_band,r_bor,r_idx,r_slc,r_attr,r_bi,r_call,r_me,r_imeth,r_comp,r_comp2,r_ite,r_ch2,r_es0,r_es1,r_ch1,r_bo1,r_bo2,r_tnot,r_tband,r_tbor,r_tcmp,r_tvar,r_tcall,r_tme,r_tidx,r_tbi,r_ts0,r_ts1,r_tgs0,r_tgs1,r_sexpr,r_sassign,r_saug,r_sdel,r_sife,r_swhl,r_sfr,r_sret,r_ss0,r_ss1,tg_var,tg_tup,tg_idx,tg_slc,bin_add,bin_sub,bin_mul,bin_div,bin_mod,bin_cat,cmp_eqi,cmp_eqs,cmp_nei,cmp_nes,cmp_lt,cmp_le,cmp_gt,cmp_ge,cmp_isn,cmp_ist,cmp_notn,cmp_nott,tr_none,tr_bool,tr_int,tr_str,tr_tup,ix_str,ix_tup,sl_ii,sl_in,sl_ni,bi_lens,bi_lent,bi_min,bi_max,bi_rng,bi_rng2,me_find,me_find2,ok_find,me_app,ok_app,me_ins,me_pop,me_join,me_ends,me_starts,ok_ins,ok_pop,ok_join,ok_ends,ok_starts,it_str,it_rng,neg_int,aug_addi,aug_adds,aug_subi,St.set,St.setAll,List.map_cons,List.map_nil,List.replicate,List.cons_append,List.nil_append,List.getElem?_cons_succ,List.getElem?_cons_zero,List.set_cons_succ,List.set_cons_zero,List.length_cons,List.length_nil,dreduceIte,retV,Option.map_some]
    exact q
  ·rw[decide_eq_false (show ¬(long.length:Int)≤(com acc).length * 2 by exact Int.not_le.mpr (zc 5693617057719986733 rfl hb))]
   refine kf _ (ssn ?_)
   have hq:hmI long short i=none:=by unfold hmI;rw[←hf,if_neg hb]
   rw[hq] at q
   exact q
 ·refine zef (show ¬((j:Nat):Int)=-1 by grind) ?_
  have hj:=zjf hocc
  refine z14 hP hT hl hs hi' hj hc fun r x7 x8 hr=>?_
  refine⟨_,?_,r,_,x7,x8,j+1,rfl,hr,by rw[zv2 hkj hocc hno] at hf;exact hf,zht hc hj,rfl⟩
  rw[if_neg (show ¬((j:Nat):Int)=-1 by omega),Int.toNat_natCast]
  rcases hr with ⟨rfl,_⟩ | ⟨j',rfl,hlt,ho,_⟩
  ·rw[if_pos rfl];exact zf 82211162245626938094322216 rfl hj (Nat.sub_add_cancel (zc 4544286322917928 rfl hj))
  ·rw[if_neg (by grind),Int.toNat_natCast];have:=zjf ho;exact za9 1443175407650981721228595219564534284948520 rfl hlt (Nat.sub_add_cancel (zc 4544286322917928 rfl this)) (Nat.sub_add_cancel (zc 4544286322917928 rfl hj))
end
noncomputable def zf5:List Str:=["self","text1","text2"]
noncomputable def zl:List Str:=["longtext","shorttext","diff_halfMatchI","hm1","hm2","hm","text1_a","text1_b","text2_a","text2_b","mid_common"]
noncomputable def zy:List (Str×NameKind):=[("len",.globalImplicit)]
noncomputable def zym:List Sm:=[
  .ife (.cmp (.attr (.var 0) "Diff_Timeout") [.LtE] [.lit (.int 0)]) [
   .ret (.lit .none)] [],
  .ife (.cmp (.bi .len [.var 1]) [.Gt] [.bi .len [.var 2]]) [
   .assign [.tup [3,4]] (.tup [.var 1,.var 2])] [
   .assign [.tup [4,3]] (.tup [.var 1,.var 2])],
  .ife (.bor [.cmp (.bi .len [.var 3]) [.Lt] [.lit (.int 4)],.cmp (.bin .Mult (.bi .len [.var 4]) (.lit (.int 2))) [.Lt] [.bi .len [.var 3]]]) [
   .ret (.lit .none)] []]
noncomputable def zqw:List Sm:=[
  .assign [.var 6] (.lcall 5 [.var 3,.var 4,.bin .FloorDiv (.bin .Add (.bi .len [.var 3]) (.lit (.int 3))) (.lit (.int 4))]),
  .assign [.var 7] (.lcall 5 [.var 3,.var 4,.bin .FloorDiv (.bin .Add (.bi .len [.var 3]) (.lit (.int 1))) (.lit (.int 2))]),
  .ife (.band [.not (.var 6),.not (.var 7)]) [
   .ret (.lit .none)] [
   .ife (.not (.var 7)) [
    .assign [.var 8] (.var 6)] [
    .ife (.not (.var 6)) [
     .assign [.var 8] (.var 7)] [
     .ife (.cmp (.bi .len [.idx (.var 6) (.lit (.int 4))]) [.Gt] [.bi .len [.idx (.var 7) (.lit (.int 4))]]) [
      .assign [.var 8] (.var 6)] [
      .assign [.var 8] (.var 7)]]]],
  .ife (.cmp (.bi .len [.var 1]) [.Gt] [.bi .len [.var 2]]) [
   .assign [.tup [9,10,11,12,13]] (.var 8)] [
   .assign [.tup [11,12,9,10,13]] (.var 8)],
  .ret (.tup [.var 9,.var 10,.var 11,.var 12,.var 13])]
noncomputable def zrg:Option zc8→Option zc8→Option zc8
 | none,h=>h
 | some f,none=>some f
 | some f,some g=>if g.2.2.2.2.length<f.2.2.2.2.length then some f else some g
noncomputable def znf (long short:Tx):Option zc8:=zrg (hmI long short ((long.length+3)/4)) (hmI long short ((long.length+1)/2))
noncomputable def zdv (long short:Tx):Option zc8:=if long.length<4∨short.length * 2<long.length then none else znf long short
noncomputable def zoq (f:zc8):zc8:=(f.2.2.1,f.2.2.2.1,f.1,f.2.1,f.2.2.2.2)
noncomputable def zat (a b:Tx):Option zc8:=if b.length<a.length then zdv a b else(zdv b a).map zoq
section
variable {P:PC}{Q:V→Mem→Prop}{m:Mem}{t d:Addr}{a b:Tx}{long short:Tx}{z:Int}
theorem zv4 {i:Nat}{es:List Ex}{Q:V→St→Prop}{σ:St}:wpE P (.lcall i es) Q σ=match σ.loc[i]? with | some (some v)=>zj0 P es (fun vs σ₁=>P.loc v vs (fun r m=>Q r {σ₁ with mem:=m}) σ₁.mem) σ | _=>False:=rfl
theorem z5h {fs:List (Str×V)}{n:String}{v:V}{K:V→Prop} (h1:m t=some (.inst P.cls d)) (h2:m d=some (.dict fs)) (h3:yT n fs=some v) (h4:P.fld n=true) (q:K v):ziy P m (.obj t) n K:=
 ⟨d,fs,h1,h2,by rw[h3];exact⟨h4,q⟩⟩
noncomputable abbrev hmS (t:Addr) (a b:Tx) (x3 x4 x5 x6 x7 x8 x9 x10 x11 x12 x13:Option V) (m:Mem):St:=⟨[some (.obj t),some (.str a),some (.str b),x3,x4,x5,x6,x7,x8,x9,x10,x11,x12,x13],m⟩
theorem z2f {fs:List (Str×V)}{K:Fl→St→Prop} (ha:sma a.length) (hb:sma b.length) (hI:m t=some (.inst P.cls d)) (hD:m d=some (.dict fs)) (hL:yT "Diff_Timeout" fs=some (.int z)) (hf:P.fld "Diff_Timeout"=true)
  (k1:z≤0→∀σ',σ'.mem=m→K (.ret .none) σ') (k2:0<z→zat a b=none→∀σ',σ'.mem=m→K (.ret .none) σ')
  (k3:0<z→∀long short,sma long.length→sma short.length→4≤long.length→(∀o,znf long short=o→zat a b=if b.length<a.length then o else o.map zoq)→K .next (hmS t a b (some (.str long)) (some (.str short)) none none none none none none none none none m)):
  zs P zym K ⟨some (.obj t)::([V.str a,.str b].map some++List.replicate 11 none),m⟩:=by
 show zs P _ _ (hmS t a b none none none none none none none none none none none m)
 unfold zym
 refine za fun Q1 n1 r1=>zi fun K1 kt kf=>?_
 walk_at "D"
 refine z5h hI hD hL hf ?_
 refine(show K1 (decide (z≤0)) _ from ?_)
 by_cases hz:z≤0
 ·rw[decide_eq_true hz]
  refine kt _ (ssn ?_)
  walk_at "D"
  exact r1 _ _ (k1 hz _ rfl)
 ·rw[decide_eq_false hz]
  replace hz:0<z:=Int.lt_of_not_ge hz
  refine kf _ (zd (n1 _ ?_))
  clear k1 kt kf n1 r1
  have go: ∀long short,sma long.length→sma short.length→zat a b=(if b.length<a.length then zdv long short else(zdv long short).map zoq)→
    zs P [.ife (.bor [.cmp (.bi .len [.var 3]) [.Lt] [.lit (.int 4)],.cmp (.bin .Mult (.bi .len [.var 4]) (.lit (.int 2))) [.Lt] [.bi .len [.var 3]]]) [.ret (.lit .none)] []] K (hmS t a b (some (.str long)) (some (.str short)) none none none none none none none none none m):=fun long short h1 h2 he=>by
   have no:(long.length<4∨short.length * 2<long.length)→zat a b=none:=fun q=>by
    rw[he];unfold zdv;rw[if_pos q];split<;>rfl
   refine ssn (zi fun K1 kt kf=>?_)
   walk_at "D"
   refine⟨h1,?_⟩
   by_cases c1:long.length<4
   ·rw[decide_eq_true (show(long.length:Int)<4 by exact zw 140802326004265 rfl c1),if_neg (by decide)]
    refine kt _ (ssn ?_)
    walk_at "D"
    exact k2 hz (no (.inl c1)) _ rfl
   ·rw[decide_eq_false (show ¬(long.length:Int)<4 by exact Int.not_lt.mpr (zw 8384178896940 rfl c1)),if_pos rfl]
    refine⟨h2,by unfold tiny;unfold sma at h2;exact⟨zw 557856390312627249 rfl,zw 313890716399935274048949644689960 rfl h2⟩,h1,?_⟩
    by_cases c2:short.length * 2<long.length
    ·rw[decide_eq_true (show(short.length:Int) * 2<long.length by exact zc 5693617057719986729 rfl c2)]
     refine kt _ (ssn ?_)
     walk_at "D"
     exact k2 hz (no (.inr c2)) _ rfl
    ·rw[decide_eq_false (show ¬(short.length:Int) * 2<long.length by exact Int.not_lt.mpr (zc 5704380175971844652 rfl c2))]
     refine kf _ (zd (k3 hz long short h1 h2 (Nat.le_of_not_lt c1) fun o ho=>?_))
     rw[he]
     have:zdv long short=o:=(if_neg fun q=>q.elim c1 c2).trans ho
     rw[this]
  refine za fun Q2 n2 r2=>zi fun K1 kt kf=>?_
  walk_at "D"
  refine⟨ha,hb,?_⟩
  by_cases c:b.length<a.length
  ·rw[decide_eq_true (Int.ofNat_lt.mpr c)]
   refine kt _ (ssn ?_)
   walk_at "D"
   exact⟨rfl,n2 _ (go a b ha hb (by unfold zat;rw[if_pos c,if_pos c]))⟩
  ·rw[decide_eq_false (fun q=>c (Int.ofNat_lt.mp q))]
   refine kf _ (ssn ?_)
   walk_at "D"
   exact⟨rfl,n2 _ (go b a hb ha (by unfold zat;rw[if_neg c,if_neg c]))⟩
theorem znu {i:Nat}{f:zc8} (h:hmI long short i=some f):f.2.2.2.2.length≤short.length:=by
 have key: ∀(js:List Nat) (acc:Option zc8),(∀j∈js,j≤short.length)→(com acc).length≤short.length→(com (js.foldl (za7 long short i) acc)).length≤short.length:=fun js=>by
  induction js with
  | nil=>exact fun acc _ h=>h
  | cons j js ih=>exact fun acc hj h=>ih _ (fun k hk=>hj k (List.mem_cons_of_mem _ hk)) (zht h (hj j List.mem_cons_self))
 unfold hmI at h
 split at h
 ·have:=key (znx short (zcb long i) 0) none (fun j hj=>by
   unfold znx at hj
   exact zjf (zep.mp (List.mem_filter.mp hj).2)) (Nat.zero_le _)
  unfold zhn at h
  rw[h] at this;exact this
 ·exact(Option.some_ne_none _ h.symm).elim
theorem zyr {X Y:Prop} (x:X):if (!(none:Option zc8).isSome)=true then X else Y:=(if_pos (c:=(!(none:Option zc8).isSome)=true) rfl).mpr x
theorem zy5 {X Y:Prop}{f:zc8} (y:Y):if (!(some f).isSome)=true then X else Y:=(if_neg (c:=(!(some f).isSome)=true) Bool.false_ne_true).mpr y
theorem zgu {o:Option zc8}{K:Bool→Prop} (h:K o.isSome):zK m (zgj o) K:=by
 cases o with
 | none=>exact h
 | some f=>exact⟨by unfold sma;exact(by decide:5≤1000000),h⟩
theorem zy2 {f:Addr} (ha:sma a.length) (hb:sma b.length) (hl:sma long.length) (hs:sma short.length) (h4:4≤long.length)
  (hP: ∀(i:Nat) (Q:V→Mem→Prop),i+long.length/4≤long.length→Q (zgj (hmI long short i)) m→P.loc (.obj f) [.str long,.str short,.int i] Q m) (q:Q (zgj (if b.length<a.length then znf long short else(znf long short).map zoq)) m):
  zs P zqw (fun fl σ'=>Q (retV fl) σ'.mem) (hmS t a b (some (.str long)) (some (.str short)) (some (.obj f)) none none none none none none none none m):=by
 have i1:((long.length:Int)+3)/4=(((long.length+3)/4:Nat):Int):=by grind
 have i2:((long.length:Int)+1)/2=(((long.length+1)/2:Nat):Int):=by grind
 unfold znf at q
 unfold zqw
 refine za fun Q1 n1 r1=>?_
 dsimp only[r_lit,r_var,r_bin,r_neg,r_not,r_list,r_tup,r_cmp,r_band,r_bor,r_idx,r_slc,r_attr,r_bi,r_call,r_me,r_imeth,r_comp,r_comp2,r_ite,r_ch2,r_es0,r_es1,r_ch1,r_bo1,r_bo2,r_tnot,r_tband,r_tbor,r_tcmp,r_tvar,r_tcall,r_tme,r_tidx,r_tbi,r_ts0,r_ts1,r_tgs0,r_tgs1,r_sexpr,r_sassign,r_saug,r_sdel,r_sife,r_swhl,r_sfr,r_sret,r_ss0,r_ss1,tg_var,tg_tup,tg_idx,tg_slc,bin_add,bin_sub,bin_mul,bin_div,bin_mod,bin_cat,cmp_eqi,cmp_eqs,cmp_nei,cmp_nes,cmp_lt,cmp_le,cmp_gt,cmp_ge,cmp_isn,cmp_ist,cmp_notn,cmp_nott,tr_none,tr_bool,tr_int,tr_str,tr_tup,ix_str,ix_tup,sl_ii,sl_in,sl_ni,bi_lens,bi_lent,bi_min,bi_max,bi_rng,bi_rng2,me_find,me_find2,ok_find,me_app,ok_app,me_ins,me_pop,me_join,me_ends,me_starts,ok_ins,ok_pop,ok_join,ok_ends,ok_starts,it_str,it_rng,neg_int,aug_addi,aug_adds,aug_subi,St.set,St.setAll,List.map_cons,List.map_nil,List.replicate,List.cons_append,List.nil_append,List.getElem?_cons_succ,List.getElem?_cons_zero,List.set_cons_succ,List.set_cons_zero,List.length_cons,List.length_nil,dreduceIte,retV,zv4]
 refine⟨hl,by decide,by walk_at "t",?_⟩
 rw[i1]
 refine hP _ _ (by exact zf 723582177125585393636788488744 rfl (Nat.div_mul_le_self _ _) (Nat.div_mul_le_self _ _)) (n1 _ (za fun Q2 n2 r2=>?_))
 dsimp only[r_lit,r_var,r_bin,r_neg,r_not,r_list,r_tup,r_cmp,r_band,r_bor,r_idx,r_slc,r_attr,r_bi,r_call,r_me,r_imeth,r_comp,r_comp2,r_ite,r_ch2,r_es0,r_es1,r_ch1,r_bo1,r_bo2,r_tnot,r_tband,r_tbor,r_tcmp,r_tvar,r_tcall,r_tme,r_tidx,r_tbi,r_ts0,r_ts1,r_tgs0,r_tgs1,r_sexpr,r_sassign,r_saug,r_sdel,r_sife,r_swhl,r_sfr,r_sret,r_ss0,r_ss1,tg_var,tg_tup,tg_idx,tg_slc,bin_add,bin_sub,bin_mul,bin_div,bin_mod,bin_cat,cmp_eqi,cmp_eqs,cmp_nei,cmp_nes,cmp_lt,cmp_le,cmp_gt,cmp_ge,cmp_isn,cmp_ist,cmp_notn,cmp_nott,tr_none,tr_bool,tr_int,tr_str,tr_tup,ix_str,ix_tup,sl_ii,sl_in,sl_ni,bi_lens,bi_lent,bi_min,bi_max,bi_rng,bi_rng2,me_find,me_find2,ok_find,me_app,ok_app,me_ins,me_pop,me_join,me_ends,me_starts,ok_ins,ok_pop,ok_join,ok_ends,ok_starts,it_str,it_rng,neg_int,aug_addi,aug_adds,aug_subi,St.set,St.setAll,List.map_cons,List.map_nil,List.replicate,List.cons_append,List.nil_append,List.getElem?_cons_succ,List.getElem?_cons_zero,List.set_cons_succ,List.set_cons_zero,List.length_cons,List.length_nil,dreduceIte,retV,zv4]
 refine⟨hl,by decide,by walk_at "t",?_⟩
 rw[i2]
 refine hP _ _ (by exact zf 723582177125585393499349527112 rfl (Nat.div_mul_le_self _ _) (Nat.div_mul_le_self _ _)) (n2 _ (za fun Q3 n3 r3=>zi fun K1 kt kf=>?_))
 have s1:=fun f=>@znu long short ((long.length+3)/4) f
 have s2:=fun f=>@znu long short ((long.length+1)/2) f
 generalize hmI long short ((long.length+3)/4)=h1 at *
 generalize hmI long short ((long.length+1)/2)=h2 at *
 have fin: ∀g:zc8,zrg h1 h2=some g→Q3 .next (hmS t a b (some (.str long)) (some (.str short)) (some (.obj f)) (some (zgj h1)) (some (zgj h2)) (some (zgj (some g))) none none none none none m):=fun g hg=>by
  rw[hg] at q
  refine n3 _ (za fun Q4 n4 r4=>zi fun K1 kt kf=>?_)
  walk_at "D"
  refine⟨ha,hb,?_⟩
  by_cases c:b.length<a.length
  ·rw[if_pos c] at q
   rw[decide_eq_true (Int.ofNat_lt.mpr c)]
   refine kt _ (ssn ?_)
   unfold zgj
   walk_at "D"
   refine⟨rfl,n4 _ (ssn ?_)⟩
   walk_at "D"
   exact q
  ·rw[if_neg c] at q
   rw[decide_eq_false (fun q=>c (Int.ofNat_lt.mp q))]
   refine kf _ (ssn ?_)
   unfold zgj
   walk_at "D"
   refine⟨rfl,n4 _ (ssn ?_)⟩
   walk_at "D"
   exact q
 walk_at "D"
 refine zgu ?_
 cases h1 with
 | none=>
  refine zyr (zgu ?_)
  cases h2 with
  | none=>
   refine kt _ (ssn ?_)
   walk_at "D"
   refine r3 _ _ ?_
   rw[show zrg none none=none from rfl] at q
   have e:(if b.length<a.length then(none:Option zc8) else none.map zoq)=none:=by split<;>rfl
   rw[e] at q
   exact q
  | some g=>
   refine kf _ (ssn (zi fun K1 kt kf=>?_))
   walk_at "D"
   refine zgu (kf _ (ssn (zi fun K1 kt kf=>?_)))
   walk_at "D"
   refine zgu (kt _ (ssn ?_))
   walk_at "D"
   exact fin g rfl
 | some f1=>
  refine zy5 (kf _ (ssn (zi fun K1 kt kf=>?_)))
  walk_at "D"
  refine zgu ?_
  cases h2 with
  | none=>
   refine kt _ (ssn ?_)
   walk_at "D"
   exact fin f1 rfl
  | some g=>
   refine kf _ (ssn (zi fun K1 kt kf=>?_))
   walk_at "D"
   refine zgu (kf _ (ssn (zi fun K1 kt kf=>?_)))
   unfold zgj
   walk_at "D"
   refine⟨by walk_at "t",_,rfl,ntr (s1 _ rfl) hs,by walk_at "t",_,rfl,ntr (s2 _ rfl) hs,?_⟩
   walk_at "D"
   by_cases c:g.2.2.2.2.length<f1.2.2.2.2.length
   ·rw[decide_eq_true (Int.ofNat_lt.mpr c)]
    refine kt _ (ssn ?_)
    walk_at "D"
    exact fin f1 (if_pos c)
   ·rw[decide_eq_false (fun q=>c (Int.ofNat_lt.mp q))]
    refine kf _ (ssn ?_)
    walk_at "D"
    exact fin g (if_neg c)
end
theorem zhe {env:Env}{c:Addr}: ∀(names:List (Str×NameKind)) (acc:List (Str×Addr)),(∀x∈yK names,env.cells.lookup x=some c)→
  (forIn (m:=Sem) names acc fun p cs=>(if p.2==NameKind.free then(do let a ←cellOf env p.1;pure (ForInStep.yield ((p.1,a)::cs))) else pure (ForInStep.yield cs)))=pure (((yK names).map (·,c)).reverse++acc)
 | [],acc,_=>by simp only[List.forIn_nil];rfl
 | (x,k)::r,acc,h=>by
  rw[List.forIn_cons]
  cases hk:k==NameKind.free with
  | true=>
   have e:yK ((x,k)::r)=x::yK r:=by unfold yK;rw[List.filterMap_cons];simp[hk]
   rw[e] at h ⊢
   have hc:cellOf env x=pure c:=by unfold cellOf;rw[h x List.mem_cons_self]
   simp only[if_true,hc,pure_bind]
   rw[zhe r _ fun y hy=>h y (List.mem_cons_of_mem _ hy),List.map_cons,List.reverse_cons,List.append_assoc];rfl
  | false=>
   have e:yK ((x,k)::r)=yK r:=by unfold yK;rw[List.filterMap_cons];simp[hk]
   rw[e] at h ⊢
   simp only[Bool.false_eq_true,if_false,pure_bind]
   exact zhe r _ h
theorem zpg {scope:Scope}{env:Env}{c:Addr}{x:Str} (h:yK scope.names=[x]) (hc:env.cells.lookup x=some c):closureFor scope env=pure [(x,c)]:=by
 unfold closureFor
 have:=zhe (env:=env) (c:=c) scope.names [] (by rw[h];intro y hy;rw[List.mem_singleton] at hy;subst hy;exact hc)
 rw[h] at this
 simpa using this
theorem zvw: ∀{as:List Arg} (env:Env),(as.all fun a=>a.annotation.isNone)=true→annotationsOf as env=[]
 | [],_,_=>rfl
 | ⟨n,none,p⟩::r,env,h=>zvw (as:=r) env (zb h).2
 | ⟨n,some a,p⟩::r,env,h=>nomatch (zb h).1
noncomputable def zoa:List Str:=["text1","text2"]
structure Nest where
 params:Arguments
 body:List Stmt
 scope:Scope
 pos:Pos
noncomputable def zao:Str:="diff_halfMatchI"
noncomputable def zp4 (x:Str) (ds:List Expr) (r:Option Expr) (tp:List TypeParam) (doc:Option Scope) (b:Str):Bool:=x==zao&&(ds.isEmpty&&(r.isNone&&(tp.isEmpty&&(doc.isNone&&b==zao))))
noncomputable def zre (x:Stmt):Option Nest:=if h:x.ctorIdx=0 then Stmt.FunctionDef.elim (motive_2:=fun _=>Option Nest) x h fun name ps bd ds r tp sc doc b pos=>if zp4 name ds r tp doc b=true then some ⟨ps,bd,sc,pos⟩ else none else none
theorem zt6 {α:Type}{o:Option α} (h:o.isNone=true):o=none:=by cases o with
 | none=>rfl
 | some x=>cases h
theorem znv {α:Type}{o:List α} (h:o.isEmpty=true):o=[]:=by cases o with
 | nil=>rfl
 | cons x l=>cases h
theorem z17 {x:Stmt}{n:Nest} (h:zre x=some n):x= .FunctionDef zao n.params n.body [] none [] n.scope none zao n.pos:=by
 unfold zre at h
 by_cases i:x.ctorIdx=0
 ·rw[dif_pos i] at h
  refine Stmt.FunctionDef.elim (motive_2:=fun x=> ∀i,Stmt.FunctionDef.elim (motive_2:=fun _=>Option Nest) x i (fun name ps bd ds r tp sc doc b pos=>if zp4 name ds r tp doc b=true then some ⟨ps,bd,sc,pos⟩ else none)=some n→x= .FunctionDef zao n.params n.body [] none [] n.scope none zao n.pos) x i (fun name ps bd ds r tp sc doc b pos _ q=>?_) i h
  replace q:(if zp4 name ds r tp doc b=true then some (⟨ps,bd,sc,pos⟩:Nest) else none)=some n:=q
  by_cases c:zp4 name ds r tp doc b=true
  ·rw[if_pos c] at q
   cases q
   obtain⟨c1,c⟩:=zb c
   obtain⟨c2,c⟩:=zb c
   obtain⟨c3,c⟩:=zb c
   obtain⟨c4,c⟩:=zb c
   obtain⟨c5,c6⟩:=zb c
   rw[beq_iff_eq.mp c1,znv c2,zt6 c3,znv c4,zt6 c5,beq_iff_eq.mp c6]
  ·rw[if_neg c] at q;exact(Option.some_ne_none _ q.symm).elim
 ·rw[dif_neg i] at h;exact(Option.some_ne_none _ h.symm).elim
noncomputable def zyi (n:Nest) (fns meths:List String):Bool:=
 zrp n.params z64&&(n.params.defaults.isEmpty&&(n.params.kw_defaults.isEmpty&&(n.params.args.all (fun a=>a.annotation.isNone)&&(!n.scope.isCoroutine&&(!n.scope.isGenerator&&(n.scope.names.all (fun p=>!(p.2== .cell)) &&
 (yK n.scope.names==[selfS]&&(zuq n.scope (z64++zwr) zn2 .free&&zc6 (zry (z64++zwr) zn2 fns meths) zri n.body))))))))
noncomputable def z1q (K:Frag) (f:Addr) (fns meths:List String) (c:Addr):Bool:=(z4x K f).any fun fd=>
 z7e K fd zf5&&(fd.defaults== .none&&(fd.closure.isEmpty&&(zon fd&&(zrv fd.scope.names==[selfS]&&(zuq fd.scope (zoa++zl) zy .cell&&(fd.code== .ref c &&
 (zc6 (zry (zoa++zl) zy fns meths) zym ((zec fd).take 3)&&(zc6 (zry (zoa++zl) zy fns meths) zqw ((zec fd).drop 4) &&
 ((zec fd)[3]?.bind zre).any fun n=>zyi n fns meths))))))))
noncomputable def z62 (K:Frag) (f:Addr):FuncData:=(z4x K f).getD default
noncomputable def zor (K:Frag) (f:Addr):Pos:=(((zec (z62 K f))[3]?.bind zre).map (·.pos)).getD ⟨0,0,0,0⟩
noncomputable def hmQ (K:Frag) (f:Addr):Str:=(z62 K f).qualname++".<locals>."++zao
section
variable {G:GS}{A:Around}{cls:Addr}
theorem runI (B:Base G (za2 cls)) (hc:zio G.K cls G.fns G.meths=true) (lv:Lv A 1):(pcM cls 0).run G A:=
 zhl (B.swap rfl rfl rfl) (fun _ _ _ _ _ h=>h.elim) (fun f _ vs Q m h=>zox B hc 0 A lv f vs Q m h) (fun _ _ _ _ h=>h.elim)
theorem cpIs:CpIs (pcM cls 0):=⟨fun s x y _ _ h1 h2 q=> .inl ⟨rfl,s,x,y,rfl,h1,h2,q⟩,fun s x y _ _ h1 h2 q=> .inr (.inl ⟨rfl,s,x,y,rfl,h1,h2,q⟩)⟩
theorem zrr (B:Base G (za2 cls)) (hc:zio G.K cls G.fns G.meths=true) {c t f c':Addr}{co:Obj}{n:Nest}{q:Str}{doc ctv:Value}{m:Mem}{long short:Tx}{i:Nat}{Q:V→Mem→Prop}
  (hco:co.data= .cell (some (.ref t))) (h:zyi n G.fns G.meths=true) (lv:Lv A 2) (hf:m f=some (.fn (fnM G zao q n.params n.body n.scope [(selfS,c)] doc c' ctv))) (hl:sma long.length) (hs:sma short.length) (h0:0<long.length) (hi:i+long.length/4≤long.length)
  (hT:zd6 (za2 cls) m t) (qq:Q (zgj (hmI long short i)) m):zjb (G.with c co) A (.ref f) [.str long,.str short,.int i] Q m:=by
 unfold zyi at h
 simp only[Bool.and_eq_true,List.isEmpty_iff,beq_iff_eq,Bool.not_eq_true'] at h
 refine bc fun z9=>?_
 obtain⟨p1,p2,p3,p4,p5,p6,p7,p8,p9,p10⟩:=h
 refine z9 ?_
 have bw:=B.with c co
 exact zx1 (P:=pcM cls 0) (a:=t) (ps:=z64) (rest:=zwr) (names:=zn2) (mine:=zri) bw.gok bw.gbi (by show z0 _ _ _ _=_;unfold z0;rw[if_pos rfl]) hco hf rfl p1 rfl rfl rfl rfl p9 p7 p5 p6 rfl p10 lv.room
  (fun env=>(lv.deeper env).rm) (fun env=>runI bw hc (lv.deeper env)) (fun _ h=>h) (fun _ h=>h) rfl (z2g cpIs hT hl hs h0 hi qq)
noncomputable def pcH (cls:Addr) (m:Mem) (f:Addr) (long short:Tx):PC:={za2 cls with
 loc:=fun v vs Q m'=>m'=m∧v= .obj f∧∃i:Nat,vs=[.str long,.str short,.int i]∧i+long.length/4≤long.length∧Q (zgj (hmI long short i)) m}
theorem z04 (B:Base G (za2 cls)) (hc:zio G.K cls G.fns G.meths=true) {c91 P f:Addr} (h:z1q G.K f G.fns G.meths c91=true) (T:BM G) (C:CodeHd G.base c91 P) (lv:Lv A 3) {t d:Addr}{fs:List (Str×V)}{a b:Tx}{z:Int}{m:Mem}{Q:V→Mem→Prop}
  (h1:sma a.length) (h2:sma b.length) (hT:zd6 (za2 cls) m t) (hI:m t=some (.inst cls d)) (hD:m d=some (.dict fs)) (hL:yT "Diff_Timeout" fs=some (.int z)) (hP:m P=some (.tab (zor G.K f) (hmQ G.K f)))
  (q: ∀m',Gr m m'→Q (if z≤0 then .none else zgj (zat a b)) m'):zjb G A (.ref f) [.obj t,.str a,.str b] Q m:=by
 refine bc fun z9=>?_
 obtain⟨fd,hfd,h⟩:=zi8 h
 refine z9 ?_
 have efd:z62 G.K f=fd:=by unfold z62;rw[hfd];rfl
 simp only[Bool.and_eq_true,List.isEmpty_iff,beq_iff_eq] at h
 refine bc fun z9=>?_
 obtain⟨g1,g2,g3,g4,g5,g6,g7,g8,g9,g10⟩:=h
 refine z9 ?_
 refine bc fun z9=>?_
 obtain⟨n,hn,hi⟩:=zi8 g10
 refine z9 ?_
 refine bc fun z9=>?_
 obtain⟨x3,hx3,hnx⟩:=Option.bind_eq_some_iff.mp hn
 refine z9 ?_
 have hpos:zor G.K f=n.pos:=by unfold zor;rw[efd,hn];rfl
 have F:=ztj g1
 have hb4:zec fd=(zec fd).take 3++(.FunctionDef zao n.params n.body [] none [] n.scope none zao n.pos::(zec fd).drop 4):=by
  obtain⟨hi3,e3⟩:=List.getElem?_eq_some_iff.mp hx3
  have:=(List.take_append_drop 3 (zec fd)).symm
  rw[List.drop_eq_getElem_cons hi3,e3,z17 hnx] at this
  exact this
 have hgi:=hi
 unfold zyi at hgi
 simp only[Bool.and_eq_true,List.isEmpty_iff,beq_iff_eq,Bool.not_eq_true'] at hgi
 refine bc fun z9=>?_
 obtain⟨p1,p2,p3,p4,p5,p6,p7,p8,p9,p10⟩:=hgi
 refine z9 ?_
 refine zuw (ps:=zoa) (rest:=zl) (names:=zy) (vs:=[.str a,.str b]) B.gok hfd F g2 g3 g5 g6 (zj5 g4) lv.room rfl fun L c co hco hcl=>?_
 obtain⟨ok,cok⟩:=zzm (G:=G.with c co) (env:=callEnvC fd L f) (fns:=G.fns) (meths:=G.meths) g6 (.inl rfl) F.glb F.bui hcl (fun _ h=>h) (fun _ h=>h)
 have bw:=B.with c co
 have X:Cx (G.with c co) (A.deeper (callEnvC fd L f)) (za2 cls) ⟨callEnvC fd L f,zcj (zoa++zl) selfS c⟩ (zry (zoa++zl) zy G.fns G.meths):=⟨bw.gok,bw.gbi,(lv.deeper _).rm,zzc bw,ok,cok⟩
 rw[hb4]
 refine znh X zym _ g8 (z2f h1 h2 hI hD hL rfl (fun hz σ' e=>?_) (fun hz hn σ' e=>?_) fun hz long short hl hs h4 hb=>?_)
 ·have:=q m (.refl _)
  rw[if_pos hz] at this
  show Q .none σ'.mem
  rw[e];exact this
 ·have:=q m (.refl _)
  rw[if_neg (Int.not_le.mpr hz),hn] at this
  show Q .none σ'.mem
  rw[e];exact this
 ·show WF _ _ _ (execs (_::_) _) _ _
  have hq0:qualnameIn (callEnvC fd L f) zao zao=hmQ G.K f:=by
   have hk:(callEnvC fd L f).kindOf zao=some .local:=beq_iff_eq.mp (List.all_eq_true.mp (zb (zb (zb g6).2).2).1 zao (by decide +kernel))
   unfold qualnameIn
   rw[hk,if_neg (by decide)]
   unfold hmQ;rw[efd];rfl
  have ann:annTrees n.params none (callEnvC fd L f)=[]:=by
   have e1:=zvw (callEnvC fd L f) p4
   have e2:=(zmn p1).1
   rw[e2] at e1 ⊢
   unfold annTrees
   simp only[List.append_nil,Option.toList] at *
   rw[e1];rfl
  intro frz s r
  rw[arm_execs_cons]
  have nest:=z3z (G:=G.with c co) (A:=A.deeper (callEnvC fd L f)) (Γ:=⟨callEnvC fd L f,zcj (zoa++zl) selfS c⟩) (i:=5) (k:= .loc) (q:=hmQ G.K f) (pos:=n.pos) (clos:=[(selfS,c)])
   (σ:=hmS t a b (some (.str long)) (some (.str short)) none none none none none none none none none m)
   (Q:=fun fl σ'=>fl= .next∧∃fI c' ctv doc,m fI=none∧σ'=hmS t a b (some (.str long)) (some (.str short)) (some (.obj fI)) none none none none none none none none (upd m fI (.fn (fnM G zao (hmQ G.K f) n.params n.body n.scope [(selfS,c)] doc c' ctv))))
   bw.gok ok T g7 C p2 p3 ann hq0 (zpg p8 hcl) rfl (fun _ h=>nomatch h) (by rw[←hpos];exact hP) (fun fI c' ctv doc hf=>⟨rfl,fI,c',ctv,doc,hf,rfl⟩)
  refine wpAny_bind (nest.then r fun cf fl σ₁ s₁ a1 r1 t1' w1=>?_)
  refine bc fun z9=>?_
  obtain⟨rfl,fI,c',ctv,doc,hfI,rfl⟩:=w1
  refine z9 ?_
  cases a1
  have g:Gr m (upd m fI (.fn (fnM G zao (hmQ G.K f) n.params n.body n.scope [(selfS,c)] doc c' ctv))):=Gr.new hfI _
  have hf2:upd m fI (.fn (fnM G zao (hmQ G.K f) n.params n.body n.scope [(selfS,c)] doc c' ctv)) fI=some (.fn (fnM G zao (hmQ G.K f) n.params n.body n.scope [(selfS,c)] doc c' ctv)):=ups _ _ _
  generalize upd m fI (.fn (fnM G zao (hmQ G.K f) n.params n.body n.scope [(selfS,c)] doc c' ctv))=m2 at *
  have run:(pcH cls m2 fI long short).run (G.with c co) (A.deeper (callEnvC fd L f)):=by
   refine zhl (bw.swap rfl rfl rfl) (fun _ _ _ _ _ h=>h.elim) (fun _ _ _ _ _ h=>h.elim) fun v vs Q' m'' hh=>?_
   refine bc fun z9=>?_
   obtain⟨rfl,rfl,i,rfl,hi9,qq⟩:=hh
   refine z9 ?_
   exact⟨fI,_,_,rfl,hf2,rfl,(zrr B hc hco hi (lv.deeper _) hf2 hl hs (by exact zw 550234046504 rfl h4) hi9 (hT.gr g) qq).toS⟩
  have qf:=q m2 g
  rw[if_neg (Int.not_le.mpr hz),hb _ rfl] at qf
  exact wpAny_mono (zwh zqw _ _ ⟨bw.gok,bw.gbi,(lv.deeper _).rm,run,ok,cok⟩ _ g9 _ _ (zy2 h1 h2 hl hs h4 (fun i Q' hi9 qq=>⟨rfl,rfl,i,rfl,hi9,qq⟩) qf) frz s₁ r1) (fun fl s₂ z=>z.after t1') fun _ _ x=>x
end
noncomputable def z3w (f:zc8):HM:=⟨f.1,f.2.1,f.2.2.1,f.2.2.2.1,f.2.2.2.2⟩
theorem zx9 (x y:Tx):x.drop (x.length-lcs x y)=y.drop (y.length-lcs x y):=by
 have h:=zV x.reverse y.reverse
 rw[zia,zia]
 exact congrArg List.reverse ((yU (lcp x.reverse y.reverse) x.reverse y.reverse h.1 h.2).mp (Nat.le_refl _))
theorem zyq (x y:Tx):x.take (lcp x y)=y.take (lcp x y):=(yU _ x y (zV x y).1 (zV x y).2).mp (Nat.le_refl _)
theorem z00 {long short:Tx}{i j:Nat} (hi:i≤long.length) (hj:j≤short.length):long=(zqn long short i j).1++(zqn long short i j).2.2.2.2++(zqn long short i j).2.1∧short=(zqn long short i j).2.2.1++(zqn long short i j).2.2.2.2++(zqn long short i j).2.2.2.1:=by
 have A:=zcg (long.take i) (short.take j)
 have e1:=zx9 (long.take i) (short.take j)
 have e2:=zyq (long.drop i) (short.drop j)
 rw[List.length_take,List.length_take,Nat.min_eq_left hi,Nat.min_eq_left hj] at A e1
 unfold zqn
 dsimp only
 generalize lcs (long.take i) (short.take j)=S at *
 generalize lcp (long.drop i) (short.drop j)=R at *
 have part: ∀(x:Tx) (k:Nat),k≤x.length→S≤k→x=x.take (k-S)++((x.take k).drop (k-S)++(x.drop k).take R)++x.drop (k+R):=fun x k hk hS=>by
  have h1:x.take k=x.take (k-S)++(x.take k).drop (k-S):=by
   have:=(List.take_append_drop (k-S) (x.take k)).symm
   rwa [List.take_take,Nat.min_eq_left (Nat.sub_le ..)] at this
  have h2:x.drop k=(x.drop k).take R++x.drop (k+R):=by
   have:=(List.take_append_drop R (x.drop k)).symm
   rwa [List.drop_drop] at this
  have h3:=(List.take_append_drop k x).symm
  rw[h1,h2] at h3
  simp only[List.append_assoc] at h3 ⊢
  exact h3
 have e3:(short.drop (j-S)).take S=(short.take j).drop (j-S):=by
  rw[List.drop_take];congr 1;exact Nat.le_antisymm (zP 121236725109153823063544874 rfl (Nat.sub_add_cancel (zc 4952567644712 rfl A.2)) (Nat.sub_add_cancel (zf 9575029436585002 rfl (Nat.sub_add_cancel (zc 4952567644712 rfl A.2))))) (zP 83155561718923140130275883 rfl (Nat.sub_add_cancel (zc 4952567644712 rfl A.2)) (Nat.sub_add_cancel (zf 9575029436585002 rfl (Nat.sub_add_cancel (zc 4952567644712 rfl A.2)))))
 rw[e3]
 refine⟨?_,part short j hj A.2⟩
 rw[←e1,←e2]
 exact part long i hi A.1
noncomputable def okF (long short:Tx) (f:zc8):Prop:=long=f.1++f.2.2.2.2++f.2.1∧short=f.2.2.1++f.2.2.2.2++f.2.2.2.1
theorem z0k {long short:Tx}{i:Nat}{f:zc8} (hi:i≤long.length) (h:hmI long short i=some f):okF long short f∧long.length≤f.2.2.2.2.length * 2:=by
 have key: ∀(js:List Nat) (acc:Option zc8),(∀j∈js,j≤short.length)→(∀g,acc=some g→okF long short g)→∀g,js.foldl (za7 long short i) acc=some g→okF long short g:=fun js=>by
  induction js with
  | nil=>exact fun acc _ h=>h
  | cons j js ih=>
   refine fun acc hj h=>ih _ (fun k hk=>hj k (List.mem_cons_of_mem _ hk)) fun g hg=>?_
   unfold za7 at hg
   split at hg
   ·cases hg;exact z00 hi (hj j List.mem_cons_self)
   ·exact h g hg
 unfold hmI at h
 split at h
 ·rename_i q
  rw[h] at q
  refine⟨key (znx short (zcb long i) 0) none (fun j hj=>?_) (fun _ h=>nomatch h) f h,q⟩
  unfold znx at hj
  exact zjf (zep.mp (List.mem_filter.mp hj).2)
 ·exact nomatch h
theorem zyy {long short:Tx}{f:zc8} (h4:4≤long.length) (h:znf long short=some f):okF long short f∧long.length≤f.2.2.2.2.length * 2:=by
 unfold znf at h
 have k1:=fun g=>@z0k long short ((long.length+3)/4) g (by exact zc 649248628841466408 rfl (Nat.div_mul_le_self _ _))
 have k2:=fun g=>@z0k long short ((long.length+1)/2) g (by exact zc 649178122658327080 rfl (Nat.div_mul_le_self _ _))
 generalize hmI long short ((long.length+3)/4)=h1 at *
 generalize hmI long short ((long.length+1)/2)=h2 at *
 unfold zrg at h
 split at h
 ·exact k2 f h
 ·exact k1 f h
 ·split at h<;>cases h
  ·exact k1 _ rfl
  ·exact k2 _ rfl
theorem zim {a b:Tx}{f:zc8} (h:zat a b=some f):HM.ok a b (z3w f)∧max a.length b.length≤f.2.2.2.2.length * 2:=by
 have main: ∀{long short:Tx} {g:zc8},zdv long short=some g→okF long short g∧long.length≤g.2.2.2.2.length * 2∧g.2.2.2.2≠[]:=fun {long short g} e=>by
  unfold zdv at e
  split at e
  ·exact(Option.some_ne_none _ e.symm).elim
  ·rename_i q
   have h4:4≤long.length:=Nat.le_of_not_lt fun z=>q (.inl z)
   obtain⟨o,l⟩:=zyy h4 e
   exact⟨o,l,fun z=>by rw[z] at l;simp only[List.length_nil] at l;exact zw 1128103560691752 rfl h4 l⟩
 unfold zat at h
 split at h
 ·rename_i c
  refine bc fun z9=>?_
  obtain⟨o,l,n⟩:=main h
  refine z9 ?_
  exact⟨⟨o.1,o.2,n⟩,by grind⟩
 ·rename_i c
  refine bc fun z9=>?_
  obtain⟨g,hg,rfl⟩:=Option.map_eq_some_iff.mp h
  refine z9 ?_
  refine bc fun z9=>?_
  obtain⟨o,l,n⟩:=main hg
  refine z9 ?_
  exact⟨⟨o.2,o.1,n⟩,by unfold zoq;dsimp only;lia⟩
noncomputable def HT (z:Int) (a b:Tx) (r:Option HM):Prop:=r=if z≤0 then none else(zat a b).map z3w
theorem z1b {G:GS}{cls:Addr} (B:Base G (za2 cls)) (hc:zio G.K cls G.fns G.meths=true) {c91 P:Addr} (h:z1q G.K (meA G.K cls "diff_halfMatch") G.fns G.meths c91=true) (T:BM G) (C:CodeHd G.base c91 P) (z:Int):
  zl5 G cls ⟨z,some (P,zor G.K (meA G.K cls "diff_halfMatch"),hmQ G.K (meA G.K cls "diff_halfMatch"))⟩ (HT z):=fun A lv t a b Q m hl ha hb hT q=>by
 have hT0:=hT.tool
 refine bc fun z9=>?_
 obtain⟨dd,fs,h1,h2,h3,h4,h5⟩:=hT
 refine z9 ?_
 refine(z04 B hc h T C (lv.less (by decide)) (by unfold sma;exact zc 4744088100555303625954344 rfl hl) (by unfold sma;exact zc 4744088101118253579375656 rfl hl) hT0 h1 h2 h4 (h5 _ _ _ rfl) fun m' g=>?_).toS
 have e:hmV (if z≤0 then none else(zat a b).map z3w)=if z≤0 then .none else zgj (zat a b):=by
  split
  ·rfl
  ·cases zat a b<;>rfl
 rw[←e]
 refine q m' _ g rfl fun h9 hh=>?_
 split at hh
 ·exact(Option.some_ne_none _ hh.symm).elim
 ·refine bc fun z9=>?_
  obtain⟨f,hf,rfl⟩:=Option.map_eq_some_iff.mp hh
  refine z9 ?_
  exact(zim hf).1
noncomputable def z6a (P sc:Addr) (o:Obj) (ns:List Int) (pos:Pos) (q:Str):Mem:=fun a=>if a=P then some (.tab pos q) else z7k sc o ns a
theorem zun {g:Heap}{sc c P:Addr}{ol:Obj}{xs:Array Value}{n:Nat} (gl:g.get? sc=some ol) (dl:ol.data= .seq xs n) (h:CodeHd g c P):CodeHd (hideAll g [sc]) c P:=by
 refine bc fun z9=>?_
 obtain⟨o,vs,file,tf,flags,tg,inF,text,tt,e,r1,r2,r⟩:=h
 refine z9 ?_
 exact⟨o,vs,file,tf,flags,tg,inF,text,tt,zk4 gl dl e (fun xs n q=>by rw[r2] at q;cases q),r1,r2,r⟩
theorem zy9 {prog:Program}{w:World}{p:Program}{loose:List Str}{mean:ExcName→Option Value}{mg mb:Str→Option Value}{K:Frag}{sc fa c P:Addr}{s:Shared}
  {vals:List Value} {ns:List Int} {R:Result→Shared→Prop} {fns meths:List String} {pos:Pos} {q:Str}
  (hT:TabsAt [(c,P)] s.heap) (X:K.In (ghostOf s.heap [(c,P)])) (T:Top p loose mean mg mb (ghostOf s.heap [(c,P)])) (hl:s.heap.IsList sc vals.toArray) (hI:IntsAre vals ns)
  (hbi:z4v K=true) (hnl:zvy K=true)
  (go: ∀(ol:Obj) (G:GS) (m:Mem),G.prog=prog→G.w=w→G.K=K→G.fns=fns→G.meths=meths→G.ok→G.bi→BM G→CodeHd G.base c P→m sc=some (.ro ol (ns.map V.int))→m P=some (.tab pos q)→zjb G callerA (.ref fa) [.obj sc] (fun r m'=>r= .bool true∧Gr m m') m)
  (hpost: ∀s':Shared,(∃h tk,s'={s with heap:=h,toks:=tk})→(∀b o,(ghostOf s.heap [(c,P)]).get? b=some o→s'.heap.get? b=some o)→(∃ps,s'.heap.get? P=some (tabObj ps))→R (.ok (.ret (.bool true))) s'):
  codeAny (model prog w) callerA (.call (.ref fa) ⟨[.ref sc],[]⟩) R s:=by
 obtain⟨ol,gl,cl,nl,dl⟩:=ghost_list hT hl
 have hC:=(ghost_code hT).1
 have hPs:s.heap.get? P=some (tabObj #[]):=(hT _ (List.mem_singleton.mpr rfl)).2
 have hPg:(ghostOf s.heap [(c,P)]).get? P=none:=hideAll_none _ (List.mem_singleton.mpr rfl)
 generalize hg:ghostOf s.heap [(c,P)]=g at X T gl hpost hC hPg
 have kg: ∀b o,g.get? b=some o→s.heap.get? b=some o:=fun b o e=>of_hideAll _ (hg▸e)
 have hsc:(hideAll g [sc]).get? sc=none:=hideAll_none _ (List.mem_singleton.mpr rfl)
 have hP2:(hideAll g [sc]).get? P=none:=by
  cases z:(hideAll g [sc]).get? P with
  | none=>rfl
  | some o=>have:=of_hideAll _ z;rw[hPg] at this;cases this
 have hne:sc≠P:=fun z=>by rw[z,hPg] at gl;exact(Option.some_ne_none _ gl.symm).elim
 let G:GS:=⟨prog,w,s,hideAll g [sc],(hideAll g [sc]).get?,mg,mb,K,fns,meths⟩
 have gok:G.ok:=⟨zn8 gl dl T.g,zn8 gl dl T.b,let ⟨mc,a,r⟩:=T.nolimit;⟨mc,zn8 gl dl a,r⟩,z4q X hnl gl cl⟩
 have gbi:G.bi:=⟨fun b=>⟨mg_none_of X T.g (beq_iff_eq.mp (List.all_eq_true.mp hbi b.name (z7n b))),(T.builtins _ (by cases b<;>decide +kernel)).trans (z2u b)⟩⟩
 have bm:BM G:=by
  obtain⟨bm,ob,b1,b2,b3,b4,b5,b6⟩:=T.bmain
  exact⟨bm,ob,b1,b2,zk4 gl dl b3 (fun xs n q=>by rw[b6] at q;cases q),b4,b5,b6⟩
 have inv: ∀{a:Addr} {o:O},z6a P sc ol ns pos q a=some o→(a=P∧O.tab pos q=o)∨(a=sc∧O.ro ol (ns.map V.int)=o):=fun {a o} e=>by
  unfold z6a at e
  split at e
  ·rename_i z;exact .inl ⟨z,Option.some.inj e⟩
  ·exact .inr (zxn e)
 have m1:z6a P sc ol ns pos q P=some (.tab pos q):=if_pos rfl
 have m2:z6a P sc ol ns pos q sc=some (.ro ol (ns.map V.int)):=(if_neg hne).trans (if_pos rfl)
 have rp:Rp G (hideAll g [sc]).get? (z6a P sc ol ns pos q) s:=by
  refine⟨⟨s.heap,s.toks,rfl⟩,fun _ _ e=>e,fun _ _ e=>e,fun b o e=>kg _ _ (of_hideAll _ e),fun a o e=>?_,fun a o e=>?_,?_⟩
  ·rcases inv e with ⟨rfl,rfl⟩ | ⟨rfl,rfl⟩
   ·exact .tab0 hPs
   ·exact .ro (kg _ _ gl) cl dl (zxq hI)
  ·rcases inv e with ⟨rfl,rfl⟩ | ⟨rfl,rfl⟩
   ·exact hP2
   ·exact hsc
  ·show(hideAll g [sc]).objs.size≤_
   rw[hideAll_size,←hg,hideAll_size];exact Nat.le_refl _
 refine codeAny_mono (go ol G _ rfl rfl rfl rfl rfl gok gbi bm (zun gl dl hC) m2 m1 _ s [.ref sc] rp (.cons (.obj sc) .nil)) fun r s' h=>?_
 rcases r with e | (_ | _ | _ | v)
 ·exact h.elim
 ·exact h.elim
 ·exact h.elim
 ·exact h.elim
 ·obtain⟨v',m',a,r1,t1,rfl,gr⟩:=h
  cases a
  refine hpost s' r1.same (fun b o e=>?_) ?_
  ·by_cases hb:b=sc
   ·subst hb
    obtain rfl:=Option.some.inj (gl.symm.trans e)
    cases r1.hmem _ _ (gr _ _ m2) with
    | ro g' _ _ _=>exact g'
   ·exact r1.hfrz b o (hideAll_get _ e (fun q=>hb (List.mem_singleton.mp q)))
  ·cases r1.hmem _ _ (gr _ _ m1) with
   | tab0 g=>exact⟨_,g⟩
   | tab1 g _ _=>exact⟨_,g⟩
noncomputable def zc2 (a b:Tx) (R:Nat):Prop:=(∀t k,lcs (a.take t) (b.take k)≤R)∧∃t k,lcs (a.take t) (b.take k)=R
theorem zzq: ∀(x a b:Tx),x.length≤lcp (x++a) (x++b)
 | [],_,_=>by simp
 | c::x,a,b=>by have:=zzq x a b;simp[lcp];omega
theorem zzi (x a b:Tx):x.length≤lcs (a++x) (b++x):=by
 have:=zzq x.reverse a.reverse b.reverse
 unfold lcs;simpa using this
theorem zq7: ∀a b:Tx,lcp a b=lcp b a
 | [],[]=>rfl
 | [],_::_=>by simp[lcp]
 | _::_,[]=>by simp[lcp]
 | a::as,b::bs=>by
  unfold lcp
  by_cases h:a=b
  ·rw[if_pos h,if_pos h.symm,zq7 as bs]
  ·rw[if_neg h,if_neg (Ne.symm h)]
theorem zpu (a b:Tx):lcs a b=lcs b a:=zq7 _ _
theorem zc2.symm {a b:Tx}{R:Nat} (h:zc2 a b R):zc2 b a R:=by
 obtain⟨h1,t,k,h2⟩:=h
 exact⟨fun t k=>by rw[zpu];exact h1 k t,k,t,by rw[zpu];exact h2⟩
theorem zv0 (a b:Tx):a.take (lcp a b)=b.take (lcp a b):=(yU _ a b (zV a b).1 (zV a b).2).mp (Nat.le_refl _)
theorem znj (a b:Tx):a.drop (a.length-lcs a b)=b.drop (b.length-lcs a b):=by
 have h:=zv0 a.reverse b.reverse
 rw[List.take_reverse,List.take_reverse] at h
 exact List.reverse_inj.mp h
theorem zy6 (long short:Tx) (i:Nat) (acc:Option zc8) (j:Nat) (hi:i≤long.length) (hj:j≤short.length):
  (com (za7 long short i acc j)).length=max (com acc).length (lcs (long.take i) (short.take j)+lcp (long.drop i) (short.drop j)):=by
 have A:=zcg (long.take i) (short.take j)
 have B:=zV (long.drop i) (short.drop j)
 simp only[List.length_take,List.length_drop] at A B
 unfold za7
 split
 ·show((short.drop (j-lcs (long.take i) (short.take j))).take (lcs (long.take i) (short.take j))++(short.drop j).take (lcp (long.drop i) (short.drop j))).length=_
  rw[List.length_append,List.length_take,List.length_take,List.length_drop,List.length_drop];omega
 ·omega
theorem zuo (long short:Tx) (i:Nat) (hi:i≤long.length): ∀(js:List Nat) (acc:Option zc8),(∀j∈js,j≤short.length)→(com acc).length≤(com (js.foldl (za7 long short i) acc)).length∧
  ∀j∈js,lcs (long.take i) (short.take j)+lcp (long.drop i) (short.drop j)≤(com (js.foldl (za7 long short i) acc)).length
 | [],acc,_=>⟨Nat.le_refl _,by simp⟩
 | j::js,acc,hj=>by
  obtain⟨a,b⟩:=zuo long short i hi js (za7 long short i acc j) (fun k hk=>hj k (List.mem_cons_of_mem _ hk))
  have s:=zy6 long short i acc j hi (hj j (by simp))
  rw[List.foldl_cons]
  refine⟨by exact zP 355759558289182333812146728 rfl a s (Nat.le_max_left _ _),fun k hk=>?_⟩
  rcases List.mem_cons.mp hk with rfl | hk
  ·exact za9 375604040221024817056917150564904 rfl a s (Nat.le_max_right _ _)
  ·exact b k hk
theorem z1w {s t:Tx}{k j:Nat} (h:j∈znx s t k):j≤s.length:=by
 unfold znx at h
 rw[List.mem_filter] at h
 exact zjf (zep.mp h.2)
theorem zy7 {s t:Tx}{j:Nat} (h:Occ s t j):j∈znx s t 0:=by
 unfold znx
 rw[List.mem_filter,List.mem_range'_1]
 have:=zjf h
 exact⟨by exact⟨zw 65592 rfl,zf 84189636062830010085610684968 rfl this (Nat.sub_add_cancel (zw 537526328 rfl))⟩,zep.mpr h⟩
theorem zrb {long short:Tx}{i s s' R:Nat} (h1:s+R≤long.length) (h2:s'+R≤short.length) (he:(long.drop s).take R=(short.drop s').take R) (hs:s≤i) (hi:i+long.length/4≤s+R) (h0:long.length≤R * 2) (h4:0<long.length):
  ∃f,hmI long short i=some f:=by
 have hj:s'+(i-s)+long.length/4≤short.length:=zlw 769857576466514943330435639158902466367984680 rfl h2 hi (Nat.sub_add_cancel (zc 4952567644712 rfl hs))
 have sub: ∀a b:Nat,a+b≤R→(long.drop (s+a)).take b=(short.drop (s'+a)).take b:=fun a b hab=>by
  have:=congrArg (fun x:Tx=>(x.drop a).take b) he
  simp only[List.drop_take,List.drop_drop,List.take_take] at this
  rw[Nat.min_eq_left (by exact zP 121236725109153823063544872 rfl hab (Nat.sub_add_cancel (zf 9575029436585000 rfl hab)))] at this
  exact this
 have seed:zcb long i=(short.drop (s'+(i-s))).take (long.length/4):=by
  unfold zcb
  have:=sub (i-s) (long.length/4) (by exact za9 127131881362623950844914490151976 rfl hi (Nat.sub_add_cancel (zc 4952567644712 rfl hs)))
  rw[show s+(i-s)=i by exact Nat.le_antisymm (zf 9804662326409303082 rfl (Nat.sub_add_cancel (zc 4952567644712 rfl hs))) (zf 5265838744531501611 rfl (Nat.sub_add_cancel (zc 4952567644712 rfl hs)))] at this
  exact this
 have occ:Occ short (zcb long i) (s'+(i-s)):=by
  have hl:(zcb long i).length=long.length/4:=by unfold zcb;rw[List.length_take,List.length_drop];omega
  unfold Occ
  rw[hl]
  exact⟨hj,seed.symm⟩
 have g:=(zuo long short i (by exact za9 85151299886042621524243387432 rfl h1 hi) (znx short (zcb long i) 0) none (fun j hj=>z1w hj)).2 _ (zy7 occ)
 have c1:i-s≤lcs (long.take i) (short.take (s'+(i-s))):=by
  have e1:long.take i=long.take s++(long.drop s).take (i-s):=by
   have:=List.take_append_drop s (long.take i)
   rw[List.take_take,Nat.min_eq_left hs,List.drop_take] at this
   exact this.symm
  have e2:short.take (s'+(i-s))=short.take s'++(short.drop s').take (i-s):=by
   have:=List.take_append_drop s' (short.take (s'+(i-s)))
   rw[List.take_take,Nat.min_eq_left (by exact zc 604635704 rfl),List.drop_take,show s'+(i-s)-s'=i-s by exact Nat.le_antisymm (zf 9804830143196697642 rfl (Nat.sub_add_cancel (zc 604635704 rfl))) (zf 9840857844999001131 rfl (Nat.sub_add_cancel (zc 604635704 rfl)))] at this
   exact this.symm
  have e3:=sub 0 (i-s) (by exact za9 128072406307471018508769099781160 rfl hi (Nat.sub_add_cancel (zc 4952567644712 rfl hs)))
  simp only[Nat.add_zero] at e3
  rw[e1,e2,e3]
  have:=zzi ((short.drop s').take (i-s)) (long.take s) (short.take s')
  rw[List.length_take,List.length_drop] at this
  omega
 have c2:s+R-i≤lcp (long.drop i) (short.drop (s'+(i-s))):=by
  have e:=sub (i-s) (s+R-i) (by exact za9 168320622368579727837490863150122 rfl (Nat.sub_add_cancel (zc 4952567644712 rfl hs)) (Nat.sub_add_cancel (zP 14836951840693603013672 rfl hi)))
  rw[show s+(i-s)=i by exact Nat.le_antisymm (zf 9804662326409303082 rfl (Nat.sub_add_cancel (zc 4952567644712 rfl hs))) (zf 5265838744531501611 rfl (Nat.sub_add_cancel (zc 4952567644712 rfl hs)))] at e
  exact(yU _ _ _ (by rw[List.length_drop];exact zk8 1752291320486096085184413312013889442856 rfl h1 (Nat.sub_add_cancel (zP 14836951840693603013672 rfl hi)) (Nat.sub_add_cancel (za9 85460784895863966610148037672 rfl h1 (Nat.sub_add_cancel (zP 14836951840693603013672 rfl hi))))) (by rw[List.length_drop];exact zpr 21399628863210324391814350209850255140072009872446504 rfl h2 (Nat.sub_add_cancel (zP 14836951840693603013672 rfl hi)) (Nat.sub_add_cancel (zc 4952567644712 rfl hs)) (Nat.sub_add_cancel (zP 14798945963438122247208 rfl hj)))).mpr e
 have big:R≤(com (zhn long short i)).length:=by
  have:(com (zhn long short i)).length=(com ((znx short (zcb long i) 0).foldl (za7 long short i) none)).length:=rfl
  exact z5a 264143925214018890286057923521023110058003142631940734197437480 rfl g c1 c2 this (Nat.sub_add_cancel (zc 4952567644712 rfl hs)) (Nat.sub_add_cancel (zP 14836951840693603013672 rfl hi))
 unfold hmI
 rw[if_pos (by exact zf 1296885012648546849325608 rfl h0 big)]
 cases hf:zhn long short i with
 | none=>rw[hf] at big;simp[com] at big;omega
 | some f=>exact⟨f,rfl⟩
theorem zif {α:Type} (s:List α) (k:Nat):s.take k=s.take (min k s.length):=by
 by_cases h:k≤s.length
 ·rw[Nat.min_eq_left h]
 ·rw[Nat.min_eq_right (by exact zc 4952567644717 rfl h),List.take_of_length_le (by exact zc 4952567644717 rfl h),List.take_of_length_le (by exact zw 66104 rfl)]
theorem zix {long short:Tx}{R:Nat} (hR:zc2 long short R) (hls:short.length≤long.length) (h4:4≤long.length) (h2:long.length≤2 * R): ∃f,zdv long short=some f:=by
 obtain⟨t,k,e⟩:=hR.2
 have A:=zcg (long.take t) (short.take k)
 rw[e] at A
 simp only[List.length_take] at A
 have P1:=znj (long.take t) (short.take k)
 rw[e,List.length_take,List.length_take,zif long t,zif short k] at P1
 have hTl:min t long.length≤long.length:=Nat.min_le_right _ _
 have hSl:min k short.length≤short.length:=Nat.min_le_right _ _
 generalize min t long.length=T at *
 generalize min k short.length=S at *
 rw[List.drop_take,List.drop_take,Nat.sub_sub_self A.1,Nat.sub_sub_self A.2] at P1
 have s1:T-R+R=T:=Nat.sub_add_cancel A.1
 have s2:S-R+R=S:=Nat.sub_add_cancel A.2
 have find:(∃f,hmI long short ((long.length+3)/4)=some f)∨∃f,hmI long short ((long.length+1)/2)=some f:=by
  by_cases c:T-R≤(long.length+3)/4
  ·exact .inl (zrb (s:=T-R) (s':=S-R) (R:=R) (by exact zP 44470898139963683466969640 rfl hTl s1) (by exact zP 44470898139963683466969640 rfl hSl s2) P1 c (by exact za9 806656055895847500263006712049565227549256 rfl h2 (Nat.div_mul_le_self _ _) (Nat.div_mul_le_self _ _)) (by exact zc 82543146882564648 rfl h2) (by exact zw 550234046504 rfl h4))
  ·exact .inr (zrb (s:=T-R) (s':=S-R) (R:=R) (by exact zP 44470898139963683466969640 rfl hTl s1) (by exact zP 44470898139963683466969640 rfl hSl s2) P1 (by exact za9 189519409643652082655943095183971669613768606248 rfl h2 hTl s1 (Nat.lt_div_mul_add (by decide))) (by exact zk8 7567330243984835788433341640288517334454882624671766749964927560 rfl h2 c (Nat.div_mul_le_self _ _) (Nat.div_mul_le_self _ _) (Nat.lt_div_mul_add (by decide))) (by exact zc 82543146882564648 rfl h2) (by exact zw 550234046504 rfl h4))
 unfold zdv znf
 rw[if_neg fun q=>q.elim (by omega) (by omega)]
 cases e1:hmI long short ((long.length+3)/4) with
 | none=>
  cases e2:hmI long short ((long.length+1)/2) with
  | none=>rw[e1,e2] at find;rcases find with ⟨f,h⟩ | ⟨f,h⟩<;>cases h
  | some f2=>exact⟨f2,rfl⟩
 | some f1=>
  cases e2:hmI long short ((long.length+1)/2) with
  | none=>exact⟨f1,rfl⟩
  | some f2=>exact⟨if f2.2.2.2.2.length<f1.2.2.2.2.length then f1 else f2,(apply_ite some _ _ _).symm⟩
theorem zot {a b:Tx}{R:Nat} (hR:zc2 a b R) (h4:4≤max a.length b.length) (h2:max a.length b.length≤2 * R): ∃h,HT 1 a b (some h):=by
 have key: ∃f,zat a b=some f:=by
  unfold zat
  by_cases c:b.length<a.length
  ·rw[if_pos c]
   rw[Nat.max_eq_left (Nat.le_of_lt c)] at h4 h2
   exact zix hR (Nat.le_of_lt c) h4 h2
  ·rw[if_neg c]
   rw[Nat.max_eq_right (Nat.le_of_not_lt c)] at h4 h2
   obtain⟨f,e⟩:=zix hR.symm (Nat.le_of_not_lt c) h4 h2
   exact⟨zoq f,by rw[e];rfl⟩
 obtain⟨f,e⟩:=key
 exact⟨z3w f,(congrArg (Option.map z3w) e).symm⟩
noncomputable def Two (a b:Tx):Prop:=max a.length b.length<4∨∀c:Tx,c.length=2→c <:+:a→c <:+:b→False
noncomputable abbrev z6f (a b:Tx):Prop:= ∃j,Occ (if b.length<a.length then a else b) (if b.length<a.length then b else a) j
theorem Two.sub {a b a' b':Tx} (h:Two a b) (ha:a' <:+:a) (hb:b' <:+:b):Two a' b':=by
 rcases h with h | h
 ·exact .inl (Nat.lt_of_le_of_lt (Nat.max_le.mpr ⟨ntr ha.length_le (Nat.le_max_left _ _),ntr hb.length_le (Nat.le_max_right _ _)⟩) h)
 ·exact .inr fun c hc h1 h2=>h c hc (h1.trans ha) (h2.trans hb)
theorem zga (p a s:Tx):a <:+:p++a++s:=⟨p,s,rfl⟩
theorem zbl (x:Nat) (a:Tx):a.take x <:+:a:=(List.take_prefix x a).isInfix
theorem zcu (x:Nat) (a:Tx):a.drop x <:+:a:=(List.drop_suffix x a).isInfix
theorem z2p {a b:Tx}{f:zc8} (h:zat a b=some f):4≤max a.length b.length:=by
 have main: ∀{long short:Tx} {g:zc8},zdv long short=some g→4≤long.length:=fun {long short g} e=>by
  unfold zdv at e
  split at e
  ·exact(Option.some_ne_none _ e.symm).elim
  ·rename_i q
   exact Nat.le_of_not_lt fun z=>q (.inl z)
 unfold zat at h
 split at h
 ·exact ntr (main h) (Nat.le_max_left _ _)
 ·obtain⟨g,hg,rfl⟩:=Option.map_eq_some_iff.mp h
  exact ntr (main hg) (Nat.le_max_right _ _)
theorem zil {a b:Tx}{h:HM} (e:HT 1 a b (some h)):HM.ok a b h∧max a.length b.length≤h.c.length * 2∧4≤max a.length b.length:=by
 obtain⟨f,hf,rfl⟩:=Option.map_eq_some_iff.mp (show(zat a b).map z3w=some h from e.symm)
 exact⟨(zim hf).1,(zim hf).2,z2p hf⟩
theorem z4u {a b:Tx}{h:HM} (e:HT 1 a b (some h)): ¬Two a b:=fun q=>by
 obtain⟨o,l,f⟩:=zil e
 rcases q with q | q
 ·exact absurd q (Nat.not_lt.mpr f)
 ·have h2:2≤h.c.length:=zc 5387241991061563048488 rfl l f
  have i:h.c.take 2 <:+:h.c:=zbl 2 _
  exact q (h.c.take 2) (by rw[List.length_take];lia) (i.trans (by rw[o.ea];exact zga _ _ _)) (i.trans (by rw[o.eb];exact zga _ _ _))
theorem zwe {a b:Tx} (h:HNo (HT 1) a b):HNo (HT 0) a b:=⟨rfl,h.2⟩
theorem zwx:(∀{a b L},MainR (HT 1) a b L→Two a b→MainR (HT 0) a b L)∧∀{a b L},CompR (HT 1) a b L→Two a b→CompR (HT 0) a b L:=by
 refine zln (M1:=fun a b L=>Two a b→MainR (HT 0) a b L) (M2:=fun a b L=>Two a b→CompR (HT 0) a b L) ?_ ?_ ?_ ?_ ?_ ?_ ?_ ?_ ?_ ?_
 ·exact fun a _=> .same a
 ·exact fun h1 h2 A hc hp ih T=> .diff h1 h2 A (ih (T.sub (zga _ _ _) (zga _ _ _))) hp
 ·exact fun h _=> .ins h
 ·exact fun h _=> .del h
 ·exact fun h1 h2 h3 _=> .inA h1 h2 h3
 ·exact fun h1 h2 h3 _=> .inB h1 h2 h3
 ·exact fun h1 h2 h3 h4 _=> .one h1 h2 h3 h4
 ·exact fun h1 h2 h3 _ _ _ _ T=>(z4u h2 T).elim
 ·exact fun h1 h2 h3 h4 h5 h6 _=> .none h1 h2 h3 (zwe h4) h5 h6
 ·exact fun h1 h2 h3 h4 _ _ i1 i2 T=> .bis h1 (zwe h2) h3 h4 (i1 (T.sub (zbl _ _) (zbl _ _))) (i2 (T.sub (zcu _ _) (zcu _ _)))
theorem zwn {a b:Tx}{L:Row} (h:CompR (HT 1) a b L) (c:Two a b∨z6f a b):CompR (HT 0) a b L:=by
 rcases c with c | ⟨j,c⟩
 ·exact zwx.2 h c
 ·cases h with
  | ins h=>exact .ins h
  | del h=>exact .del h
  | inA h1 h2 h3=>exact .inA h1 h2 h3
  | inB h1 h2 h3=>exact .inB h1 h2 h3
  | one h1 h2 h3 h4=>exact .one h1 h2 h3 h4
  | half h=>exact(h j c).elim
  | none _ _ h=>exact(h j c).elim
  | bis h=>exact(h j c).elim
theorem zfh (u t v:Tx):Occ (u++t++v) t u.length:=by
 unfold Occ
 rw[List.append_assoc,List.drop_left' rfl,List.take_left' rfl]
 exact⟨by rw[List.length_append,List.length_append];exact zf 1201354568111160 rfl,rfl⟩
theorem zca {a b:Tx} (h:zhy a b):a≠[]∧b≠[]:=by
 constructor
 ·rintro rfl
  exact h 0 (by have q: ¬b.length<([]:Tx).length:=Nat.not_lt_zero _;rw[if_neg q,if_neg q];exact⟨Nat.zero_le _,rfl⟩)
 ·rintro rfl
  by_cases q:([]:Tx).length<a.length
  ·exact h 0 (by rw[if_pos q,if_pos q];exact⟨Nat.zero_le _,rfl⟩)
  ·exact h 0 (by rw[if_neg q,if_neg q];exact⟨by rw[Nat.zero_add];exact Nat.le_of_not_lt q,by rw[List.length_eq_zero_iff.mp (Nat.le_zero.mp (Nat.le_of_not_lt q))];rfl⟩)
theorem zqh {s u v u' v':Tx} (e:u++s++v=u'++s++v') (h: ∀j,j<u.length→¬Occ (u++s++v) s j) (h': ∀j,j<u'.length→¬Occ (u++s++v) s j):u=u'∧v=v':=by
 have k:Occ (u++s++v) s u'.length:=by rw[e];exact zfh u' s v'
 have hl:u.length=u'.length:=by
  rcases Nat.lt_trichotomy u.length u'.length with q | q | q
  ·exact(h' _ q (zfh u s v)).elim
  ·exact q
  ·exact(h _ q k).elim
 rw[List.append_assoc,List.append_assoc] at e
 obtain⟨e1,e2⟩:=List.append_inj e hl
 exact⟨e1,(List.append_inj e2 rfl).2⟩
structure CV (H:Tx→Tx→Option HM→Prop) (a b:Tx) (L:Row):Prop where
 e1:a=[]→L=[(1,b)]
 e2:b=[]→L=[(-1,a)]
 e3: ∀u v:Tx,b≠[]→b.length<a.length→a=u++b++v→(∀j,j<u.length→¬Occ a b j)→L=[(-1,u),(0,b),(-1,v)]
 e4: ∀u v:Tx,a≠[]→a.length≤b.length→b=u++a++v→(∀j,j<u.length→¬Occ b a j)→L=[(1,u),(0,a),(1,v)]
 e5:zhy a b→(if b.length<a.length then b.length else a.length)=1∨bis a b=none→L=[(-1,a),(1,b)]
 e6: ∀x y:Nat,zhy a b→(if b.length<a.length then b.length else a.length)≠1→bis a b=some ((x:Int),(y:Int))→∃L1 L2,L=L1++L2∧MainR H (a.take x) (b.take y) L1∧MainR H (a.drop x) (b.drop y) L2
theorem zk1 {a b u v:Tx} (h:zhy a b) (c:b.length<a.length) (e:a=u++b++v) {M:Prop}:M:=by
 have:=h u.length
 rw[if_pos c,if_pos c] at this
 exact(this (e▸zfh u b v)).elim
theorem zlg {a b u v:Tx} (h:zhy a b) (c:a.length≤b.length) (e:b=u++a++v) {M:Prop}:M:=by
 have:=h u.length
 rw[if_neg (Nat.not_lt.mpr c),if_neg (Nat.not_lt.mpr c)] at this
 exact(this (e▸zfh u a v)).elim
theorem cv {H:Tx→Tx→Option HM→Prop} (no:NoH H) {a b:Tx}{L:Row} (h:CompR H a b L):CV H a b L:=by
 have two:zhy a b→L=[(-1,a),(1,b)]→(∀x y:Nat,(if b.length<a.length then b.length else a.length)≠1→bis a b=some ((x:Int),(y:Int))→False)→CV H a b L:=fun n e k=>
  ⟨fun q=>((zca n).1 q).elim,fun q=>((zca n).2 q).elim,fun u v _ c q _=>zk1 n c q,fun u v _ c q _=>zlg n c q,fun _ _=>e,fun x y _ h1 h2=>(k x y h1 h2).elim⟩
 cases h with
 | ins hb=>exact⟨fun _=>rfl,fun q=>(hb q).elim,fun _ _ _ c _ _=>(Nat.not_lt_zero _ c).elim,fun _ _ q _ _ _=>(q rfl).elim,fun n _=>((zca n).1 rfl).elim,fun _ _ n _ _=>((zca n).1 rfl).elim⟩
 | del ha=>exact⟨fun q=>(ha q).elim,fun _=>rfl,fun _ _ q _ _ _=>(q rfl).elim,fun _ _ _ c _ _=>(ha (List.length_eq_zero_iff.mp (Nat.le_zero.mp c))).elim,fun n _=>((zca n).2 rfl).elim,fun _ _ n _ _=>((zca n).2 rfl).elim⟩
 | inA hb hl hf=>
  refine⟨fun q=>?_,fun q=>(hb q).elim,fun u v _ _ e h=>?_,fun _ _ _ c _ _=>(Nat.not_lt.mpr c hl).elim,fun n _=>zk1 n hl rfl,fun _ _ n _ _=>zk1 n hl rfl⟩
  ·rw[q] at hl;exact(Nat.not_lt_zero _ hl).elim
  ·obtain⟨rfl,rfl⟩:=zqh e hf h;rfl
 | inB ha hl hf=>
  refine⟨fun q=>(ha q).elim,fun q=>?_,fun _ _ _ c _ _=>(Nat.not_lt.mpr hl c).elim,fun u v _ _ e h=>?_,fun n _=>zlg n hl rfl,fun _ _ n _ _=>zlg n hl rfl⟩
  ·rw[q] at hl;exact(ha (List.length_eq_zero_iff.mp (Nat.le_zero.mp hl))).elim
  ·obtain⟨rfl,rfl⟩:=zqh e hf h;rfl
 | one ha hb h1 n=>exact two n rfl fun _ _ q _=>q h1
 | half _ h=>exact(no _ _ _ h).elim
 | none ha hb n _ h1 _=>exact two n rfl fun _ _ _ q=>by rw[h1] at q;cases q
 | bis n h h1 hm R1 R2=>
  refine⟨fun q=>((zca n).1 q).elim,fun q=>((zca n).2 q).elim,fun u v _ c q _=>zk1 n c q,fun u v _ c q _=>zlg n c q,fun _ q=>?_,fun x y _ _ q=>?_⟩
  ·rcases q with q | q
   ·exact(h.2 q).elim
   ·rw[h1] at q;cases q
  ·rw[h1] at q
   injection q with q
   injection q with q1 q2
   cases Int.ofNat.inj q1
   cases Int.ofNat.inj q2
   exact⟨_,_,rfl,R1,R2⟩
theorem zla {H:Tx→Tx→Option HM→Prop}{a b:Tx}{L:Row} (h:MainR H a b L):(a=b∧L=yO a)∨(a≠b∧∃p s a' b' L',a=p++a'++s∧b=p++b'++s∧lcp a b=p.length∧Apart a' b'∧CompR H a' b' L'∧phi (yO p++L'++yO s)<100∧L=zB 100 (yO p++L'++yO s)):=by
 cases h with
 | same=>exact .inl ⟨rfl,rfl⟩
 | diff h1 h2 h3 h4 h5=>exact .inr ⟨h1,_,_,_,_,_,rfl,rfl,h2,h3,h4,h5,rfl⟩
theorem zqj {a b s a' b' s':Tx} (h1:a++s=a'++s') (h2:b++s=b'++s') (A:Apart a b) (A':Apart a' b'):a=a'∧b=b'∧s=s':=by
 have half: ∀{a b s a' b' s':Tx},s.length≤s'.length→a++s=a'++s'→b++s=b'++s'→Apart a b→s.length=s'.length:=fun {a b s a' b' s'} l h1 h2 A=>by
  rcases List.append_eq_append_iff.mp h1 with ⟨w,rfl,rfl⟩ | ⟨w,rfl,rfl⟩
  ·rw[List.length_append] at l ⊢;exact Nat.le_antisymm (zc 5228723629487297576 rfl l) (zc 71959096 rfl)
  ·rw[←List.append_assoc] at h2
   obtain rfl:=List.append_cancel_right h2
   rcases List.eq_nil_or_concat w with rfl | ⟨w,x,rfl⟩
   ·rfl
   ·exact(A.tl x x (a'++w) (b'++w) (by rw[List.concat_eq_append,List.append_assoc]) (by rw[List.concat_eq_append,List.append_assoc]) rfl).elim
 have hl:s.length=s'.length:=by
  rcases Nat.le_total s.length s'.length with l | l
  ·exact half l h1 h2 A
  ·exact(half l h1.symm h2.symm A').symm
 obtain⟨e1,e2⟩:=List.append_inj' h1 hl
 exact⟨e1,(List.append_inj' h2 hl).1,e2⟩
theorem zsy {H:Tx→Tx→Option HM→Prop} (no:NoH H):(∀{a b L},MainR H a b L→∀L',MainR H a b L'→L=L')∧∀{a b L},CompR H a b L→∀L',CompR H a b L'→L=L':=by
 refine zln (M1:=fun a b L=> ∀L',MainR H a b L'→L=L') (M2:=fun a b L=> ∀L',CompR H a b L'→L=L') ?_ ?_ ?_ ?_ ?_ ?_ ?_ ?_ ?_ ?_
 ·intro a L' h
  rcases zla h with ⟨_,e⟩ | ⟨q,_⟩
  ·exact e.symm
  ·exact(q rfl).elim
 ·intro p s a b L hne h1 A hc hp ih L' h
  rcases zla h with ⟨q,_⟩ | ⟨_,p',s',a',b',L'',ea,eb,h1',A',hc',_,rfl⟩
  ·exact(hne q).elim
  ·have hl:=h1.symm.trans h1'
   rw[List.append_assoc,List.append_assoc] at ea eb
   obtain⟨e1,e2⟩:=List.append_inj ea hl
   obtain⟨rfl,rfl,rfl⟩:=zqj e2 (List.append_inj eb hl).2 A A'
   subst e1
   rw[ih _ hc']
 ·exact fun hb L' h=>((cv no h).e1 rfl).symm
 ·exact fun ha L' h=>((cv no h).e2 rfl).symm
 ·exact fun hb hl hf L' h=>((cv no h).e3 _ _ hb hl rfl hf).symm
 ·exact fun ha hl hf L' h=>((cv no h).e4 _ _ ha hl rfl hf).symm
 ·exact fun ha hb h1 n L' h=>((cv no h).e5 n (.inl h1)).symm
 ·exact fun _ h=>(no _ _ _ h).elim
 ·exact fun ha hb n _ h1 _ L' h=>((cv no h).e5 n (.inr h1)).symm
 ·intro a b x y L1 L2 n h h1 hm R1 R2 i1 i2 L' h'
  obtain⟨L1',L2',rfl,r1,r2⟩:=(cv no h').e6 x y n h.2 h1
  rw[i1 _ r1,i2 _ r2]
theorem zpy:NoH (HT 0):=fun _ _ _ h=>nomatch (h:some _=none)
noncomputable def zbj:Row→Nat
 | []=>0
 | p::r=>(if p.1=0 then p.2.length else 0)+zbj r
theorem zde: ∀a b:Row,zbj (a++b)=zbj a+zbj b
 | [],b=>(Nat.zero_add _).symm
 | p::a,b=>by
  show _+zbj (a++b)=_+zbj a+zbj b
  rw[zde a b,Nat.add_assoc]
theorem yZ: ∀{r:Row},zk r→(z4 (-1) r).length+(z4 1 r).length=ze r+2 * zbj r
 | [],_=>rfl
 | (j,u)::r,h=>by
  have ih:=yZ h.tail
  show _=(if j=0 then 0 else u.length)+ze r+2 * ((if j=0 then u.length else 0)+zbj r)
  rcases h.head with e | e | e
  ·replace e:j=-1:=e;subst e
   show(u++z4 (-1) r).length+(z4 1 r).length=u.length+ze r+2 * (0+zbj r)
   rw[List.length_append];exact Nat.le_antisymm (za9 265868001877021921811205034427399279658 rfl ih) (za9 267279505381952837066500224807312823339 rfl ih)
  ·replace e:j=0:=e;subst e
   show(u++z4 (-1) r).length+(u++z4 1 r).length=0+ze r+2 * (u.length+zbj r)
   rw[List.length_append,List.length_append];exact Nat.le_antisymm (za9 275056163281838465728106669946378966799402 rfl ih) (za9 275055924618026467420155449848113391473707 rfl ih)
  ·replace e:j=1:=e;subst e
   show(z4 (-1) r).length+(u++z4 1 r).length=u.length+ze r+2 * (0+zbj r)
   rw[List.length_append];exact Nat.le_antisymm (za9 265868001877022072885427312090199626794 rfl ih) (za9 268609301285206655186175902390629176363 rfl ih)
theorem zfv (x:Tx):zbj (yO x)=x.length:=by
 unfold yO;split
 ·rename_i h;rw[h];rfl
 ·rfl
noncomputable def lcq (a b:Tx):Nat:=(a.length+b.length-zm a b)/2
theorem zkh (a b:Tx):a.length+b.length=zm a b+2 * lcq a b:=by
 obtain⟨_,_,t,h⟩:=(zu a b).bound
 unfold lcq
 rw[h,Nat.add_sub_cancel_left,Nat.mul_div_cancel_left _ (by decide)]
theorem zyg {a b a1 b1 a2 b2 c u1 u2 e:Nat} (l1:a≤c * 2) (l2:b≤c * 2) (la:a=a1+c+a2) (lb:b=b1+c+b2) (s1:u1≤a1+b1) (s2:u2≤a2+b2):2 * (u1+(0+u2))≤a+b+e:=by
 subst la lb
 exact zpr 54375104483549049005476159793949792902761857761734476090701074385383603976465416776 rfl s1 s2 l1 l2
theorem zu1:(∀{a b L},MainR (HT 1) a b L→2 * ze L≤a.length+b.length+zm a b)∧∀{a b L},CompR (HT 1) a b L→Apart a b→2 * ze L≤a.length+b.length+zm a b:=by
 refine zln (M1:=fun a b L=>2 * ze L≤a.length+b.length+zm a b) (M2:=fun a b L=>Apart a b→2 * ze L≤a.length+b.length+zm a b) ?_ ?_ ?_ ?_ ?_ ?_ ?_ ?_ ?_ ?_
 ·exact fun a=>by rw[zaw];exact Nat.zero_le _
 ·intro p s a b L hne h1 A hc hp ih
  have C:=zfx hc A
  have hN:NE (yO p++L++yO s):=((zfm p).append C.n).append (zfm s)
  have hK:zk (yO p++L++yO s):=((zL p).append C.k).append (zL s)
  have n2:=(zh9 100 _ hN hK hp).2.1
  have t1:=zh7 hK
  rw[zv,zv,zaw,zaw] at t1
  have i:=ih A
  rw[zlf]
  simp only[List.length_append]
  exact zpr 33301661905016518212430681021901120955676206485193723627504200 rfl n2 t1 i
 ·intro b hb A
  show 2 * (b.length+0)≤0+b.length+b.length
  exact zw 9077722618406968 rfl
 ·intro a ha A
  rw[zbf]
  show 2 * (a.length+0)≤a.length+0+a.length
  exact zw 9007903630043192 rfl
 ·intro u v b hb hl hf A
  have:=(zu (u++b++v) b).bound.1
  show 2 * (u.length+(0+(v.length+0)))≤_
  simp only[List.length_append] at this ⊢
  exact zP 2236439544488843094540358600237543229147358248 rfl this
 ·intro u v a ha hl hf A
  have:=(zu a (u++a++v)).bound.2.1
  show 2 * (u.length+(0+(v.length+0)))≤_
  simp only[List.length_append] at this ⊢
  exact zP 2241970845947157240655156193732883931914609704 rfl this
 ·intro a b ha hb h1 n A
  have:=zkn h1 n
  show 2 * (a.length+(b.length+0))≤_
  exact zf 1352455688706767288914913268776 rfl this
 ·intro a b h L1 L2 n hh ho R1 R2 i1 i2 A
  have l1:=ntr (Nat.le_max_left _ _) (zil hh).2.1
  have l2:=ntr (Nat.le_max_right _ _) (zil hh).2.1
  have g1:=zaj R1
  have g2:=zaj R2
  have k1:=yZ g1.k
  have k2:=yZ g2.k
  rw[g1.m,g1.p] at k1
  rw[g2.m,g2.p] at k2
  have la:=congrArg List.length ho.ea
  have lb:=congrArg List.length ho.eb
  simp only[List.length_append] at la lb
  rw[zv]
  show 2 * (ze L1+(0+ze L2))≤_
  exact zyg l1 l2 la lb (k1▸Nat.le_add_right _ _) (k2▸Nat.le_add_right _ _)
 ·intro a b ha hb n hh h1 hd A
  show 2 * (a.length+(b.length+0))≤_
  exact zf 1352455688706767288914913268779 rfl hd
 ·intro a b x y L1 L2 n hh hb hm R1 R2 i1 i2 A
  have c:=hm.cost
  rw[ze4 hm.hx hm.hy] at c
  replace c:zm (a.take x) (b.take y)+zm (a.drop x) (b.drop y)=zm a b:=c
  rw[zv]
  simp only[List.length_take,List.length_drop] at i1 i2
  have:=hm.hx
  have:=hm.hy
  lia
noncomputable def Lk (n:Nat) (r:Row):Prop:= ∃p∈r,p.1=0∧n≤p.2.length
theorem Lk.left {n:Nat}{a b:Row} (h:Lk n a):Lk n (a++b):=let ⟨p,m,q⟩:=h;⟨p,List.mem_append_left _ m,q⟩
theorem Lk.right {n:Nat}{a b:Row} (h:Lk n b):Lk n (a++b):=let ⟨p,m,q⟩:=h;⟨p,List.mem_append_right _ m,q⟩
theorem Lk.cons {n:Nat}{p:zG}{r:Row} (h:Lk n (p::r)):(p.1=0∧n≤p.2.length)∨Lk n r:=let ⟨q,m,e⟩:=h;(List.mem_cons.mp m).elim (fun m=> .inl (m▸e)) fun m=> .inr ⟨q,m,e⟩
theorem Lk.head {n:Nat}{p:zG}{r:Row} (h1:p.1=0) (h2:n≤p.2.length):Lk n (p::r):=⟨p,List.mem_cons_self,h1,h2⟩
theorem Lk.tail {n:Nat}{p:zG}{r:Row} (h:Lk n r):Lk n (p::r):=h.right (a:=[p])
theorem zhb {n:Nat} (x:Tx): ∀{dn:Row},Lk n dn→Lk n (zS dn x)
 | [],h=>nomatch h.choose_spec.1
 | [(k,u)],h=>by
  rcases h.cons with ⟨h1,h2⟩ | h
  ·exact .head h1 (ntr h2 (by rw[List.length_append];exact Nat.le_add_right _ _))
  ·exact nomatch h.choose_spec.1
 | a::b::r,h=>by
  rcases h.cons with ⟨h1,h2⟩ | h
  ·exact .head h1 h2
  ·exact(zhb x h).tail
theorem zxd {n:Nat}{t:Tx} (ht:n≤t.length) {dn:Row} (h:Dn dn):Lk n (zS dn t):=by
 rcases h with rfl | ⟨d,u,rfl⟩
 ·exact .head rfl ht
 ·rw[zt]
  exact(Lk.head rfl (by rw[List.length_append];exact ntr ht (Nat.le_add_left _ _))).right
theorem zqi {n:Nat}{q:Trim}:(Lk n q.done→Lk n (zM q).done)∧q.t.length≤(zM q).t.length:=by
 unfold zM
 split
 ·exact⟨fun h=>h,Nat.le_refl _⟩
 ·exact⟨fun h=>zhb _ h,Nat.le_refl _⟩
theorem zqg {n:Nat}{q:Trim}:(Lk n q.done→Lk n (ze2 q).done)∧q.t.length≤(ze2 q).t.length:=by
 unfold ze2
 split
 ·exact⟨fun h=>h,Nat.le_refl _⟩
 ·exact⟨fun h=>h,by show _≤List.length (_++_);rw[List.length_append];exact Nat.le_add_left _ _⟩
theorem zmp {n:Nat}{done run:Row}{t:Tx} (hD:Dn done) (h:Lk n done∨n≤t.length):Lk n (zr done run t):=by
 unfold zr
 split
 ·have key:(Lk n done→Lk n (zb5 done run t).done)∧t.length≤(zb5 done run t).t.length:=by
   unfold zb5
   split
   ·exact⟨fun h=>zqg.1 (zqi.1 h),ntr (zqi (n:=n) (q:=⟨done,cat (-1) run,cat 1 run,t⟩)).2 (zqg (n:=n)).2⟩
   ·exact⟨fun h=>h,Nat.le_refl _⟩
  unfold zqq
  rcases h with h | h
  ·exact(key.1 h).left.left
  ·exact(Lk.head rfl (ntr h key.2)).right
 ·split
  ·rcases h with h | h
   ·exact zhb _ h
   ·exact zxd h hD
  ·rcases h with h | h
   ·exact h.left.left
   ·exact(Lk.head rfl h).right
theorem zhd {n:Nat}: ∀(r done run:Row),Dn done→Lk n done∨Lk n r→Lk n (zg done run r)
 | [],done,run,_,h=>by
  rcases h with h | h
  ·exact h.left
  ·exact nomatch h.choose_spec.1
 | (k,t)::r,done,run,hD,h=>by
  unfold zg
  split
  ·rename_i e
   refine zhd r _ _ (.inr (za0 hD t)) ?_
   rcases h with h | h
   ·exact .inl (zmp hD (.inl h))
   ·rcases h.cons with ⟨_,h⟩ | h
    ·exact .inl (zmp hD (.inr h))
    ·exact .inr h
  ·rename_i e
   refine zhd r _ _ hD ?_
   rcases h with h | h
   ·exact .inl h
   ·rcases h.cons with ⟨h,_⟩ | h
    ·exact(e h).elim
    ·exact .inr h
theorem zto {n:Nat} (hn:0<n): ∀{r:Row},Lk n r→Lk n (ze1 r)
 | [],h=>h
 | [p],h=>by
  unfold ze1
  split
  ·rename_i e
   rcases h.cons with ⟨_,h⟩ | h
   ·rw[e] at h;exact(Nat.not_lt.mpr h hn).elim
   ·exact h
  ·exact h
 | p::q::r,h=>by
  rcases h.cons with ⟨h1,h2⟩ | h
  ·exact .head h1 h2
  ·exact(zto hn h).tail
theorem zxb {n:Nat} (r:Row):Lk n r→Lk n (zay r).1:=by
 refine zf6 (M:=fun r s=>Lk n r→Lk n s.1) (fun h=>h) (yY (M:=fun a r s=>Lk n (a::r)→Lk n s.1) (fun a h=>h) (fun a b h=>h) ?_ ?_ ?_) r
 ·intro a b c C x h1 h2 he ih h
  have big: ∀{p:zG},n≤p.2.length→(p=a∨p=c)→Lk n x.1:=fun hp e=>ih (.head h2 (by
   show n≤(a.2++c.2).length
   rw[List.length_append]
   rcases e with rfl | rfl
   ·exact ntr hp (Nat.le_add_right _ _)
   ·exact ntr hp (Nat.le_add_left _ _)))
  rcases h.cons with ⟨_,h⟩ | h
  ·exact(big h (.inl rfl)).tail
  ·rcases h.cons with ⟨h3,h⟩ | h
   ·refine .head h3 (ntr h ?_)
    show b.2.length≤(a.2++b.2.take (b.2.length-a.2.length)).length
    rw[List.length_append,List.length_take];lia
   ·rcases h.cons with ⟨_,h⟩ | h
    ·exact(big h (.inr rfl)).tail
    ·exact(ih h.tail).tail
 ·intro a b c C x h1 h2 he ih h
  have big: ∀{p:zG},n≤p.2.length→(p=a∨p=c)→Lk n ((a.1,a.2++c.2)::x.1):=fun hp e=> .head h1 (by
   show n≤(a.2++c.2).length
   rw[List.length_append]
   rcases e with rfl | rfl
   ·exact ntr hp (Nat.le_add_right _ _)
   ·exact ntr hp (Nat.le_add_left _ _))
  rcases h.cons with ⟨_,h⟩ | h
  ·exact big h (.inl rfl)
  ·rcases h.cons with ⟨h3,h⟩ | h
   ·refine(ih (.head h3 (ntr h ?_))).tail
    show b.2.length≤(b.2.drop c.2.length++c.2).length
    rw[List.length_append,List.length_drop];exact zf 9841495965939925544 rfl (Nat.sub_le_iff_le_add.mp (Nat.le_refl _))
   ·rcases h.cons with ⟨_,h⟩ | h
    ·exact big h (.inr rfl)
    ·exact(ih h.tail).tail
 ·intro a b c C x ih h
  rcases h.cons with ⟨h1,h⟩ | h
  ·exact .head h1 h
  ·exact(ih h).tail
theorem zqm {n:Nat} (hn:0<n): ∀(k:Nat) (r:Row),Lk n r→Lk n (zB k r)
 | 0,r,h=>h
 | k+1,r,h=>by
  have h2:=zxb _ (zto hn (zhd _ [] [] (.inl rfl) (.inr (h.left (b:=[(0,[])])))))
  unfold zB
  split
  ·exact zqm hn k _ h2
  ·exact h2
theorem zs3 {a b c:Tx}{R:Nat} (h:zc2 a b R) (h1:c <:+:a) (h2:c <:+:b):c.length≤R:=by
 obtain⟨s,t,rfl⟩:=h1
 obtain⟨s',t',rfl⟩:=h2
 have:=h.1 (s++c).length (s'++c).length
 rw[List.take_left' rfl,List.take_left' rfl] at this
 exact ntr (zzi _ _ _) this
theorem znr {a b:Tx}{R:Nat} (h:zc2 a b R): ∃c:Tx,c.length=R∧c <:+:a∧c <:+:b:=by
 obtain⟨t,k,e⟩:=h.2
 have l:=zcg (a.take t) (b.take k)
 rw[e] at l
 have q:=znj (a.take t) (b.take k)
 rw[e] at q
 exact⟨_,by rw[List.length_drop];exact Nat.sub_sub_self l.1,(zcu _ _).trans (zbl _ _),by rw[q];exact(zcu _ _).trans (zbl _ _)⟩
theorem zua {a b:Tx}{R:Nat} (h:zc2 a b R):R≤min a.length b.length:=by
 obtain⟨c,rfl,h1,h2⟩:=znr h
 exact Nat.le_min.mpr ⟨h1.length_le,h2.length_le⟩
theorem zmk {s t:Tx} (h:t <:+:s): ∃j,Occ s t j:=by
 obtain⟨u,v,rfl⟩:=h
 exact⟨u.length,zfh u t v⟩
theorem zmi {s t:Tx}{j:Nat} (h:Occ s t j):t <:+:s:=by
 have:=(zbl t.length (s.drop j)).trans (zcu j s)
 rwa [h.2] at this
theorem zuj {a b:Tx}{R:Nat} (h:zc2 a b R):R=min a.length b.length↔z6f a b:=by
 constructor
 ·intro e
  obtain⟨c,hc,h1,h2⟩:=znr h
  rw[e] at hc
  unfold z6f
  by_cases q:b.length<a.length
  ·rw[if_pos q,if_pos q]
   rw[Nat.min_eq_right (Nat.le_of_lt q)] at hc
   rw[h2.eq_of_length hc] at h1
   exact zmk h1
  ·rw[if_neg q,if_neg q]
   rw[Nat.min_eq_left (Nat.le_of_not_lt q)] at hc
   rw[h1.eq_of_length hc] at h2
   exact zmk h2
 ·rintro ⟨j,q⟩
  refine Nat.le_antisymm (zua h) ?_
  by_cases c:b.length<a.length
  ·rw[if_pos c,if_pos c] at q
   rw[Nat.min_eq_right (Nat.le_of_lt c)]
   exact zs3 h (zmi q) (List.infix_refl b)
  ·rw[if_neg c,if_neg c] at q
   rw[Nat.min_eq_left (Nat.le_of_not_lt c)]
   exact zs3 h (List.infix_refl a) (zmi q)
structure Strip (a b p s a' b':Tx):Prop where
 ea:a=p++a'++s
 eb:b=p++b'++s
 l:lcp a b=p.length
 A:Apart a' b'
inductive FloR:Tx→Tx→Nat→Bool→Nat→Prop
 | tab {a b p s a' b':Tx} {R:Nat}:Strip a b p s a' b'→zc2 a' b' R→(R<2∨max a'.length b'.length<4∨R=min a'.length b'.length)→FloR a b (p.length+s.length+lcq a' b') true 0
 | half {a b p s a' b':Tx}:Strip a b p s a' b'→FloR a b (p.length+s.length+(lcq a' b'+1)/2) false 0
 | deep {a b p s a' b':Tx} {R n1 n2 w1 w2:Nat} {f1 f2:Bool} {h:HM}:Strip a b p s a' b'→zc2 a' b' R→¬(R<2∨max a'.length b'.length<4∨R=min a'.length b'.length)→HT 1 a' b' (some h)→FloR h.a1 h.b1 n1 f1 w1→FloR h.a2 h.b2 n2 f2 w2→FloR a b (p.length+s.length+h.c.length+n1+n2) false h.c.length
theorem zuu: ∀a:Tx,lcp a a=a.length
 | []=>rfl
 | a::as=>by unfold lcp;rw[if_pos rfl,zuu as];rfl
theorem zg3 {H:Tx→Tx→Option HM→Prop}{a b p s a' b':Tx}{L:Row} (S:Strip a b p s a' b') (h:MainR H a b L):(a=b∧L=yO a∧p=a∧s=[]∧a'=[]∧b'=[])∨(a≠b∧∃L',CompR H a' b' L'∧phi (yO p++L'++yO s)<100∧L=zB 100 (yO p++L'++yO s)):=by
 obtain⟨ea,eb,l,A⟩:=S
 rcases zla h with ⟨q,e⟩ | ⟨q,p2,s2,a2,b2,L2,ea2,eb2,l2,A2,hc,hp,e⟩
 ·subst q
  rw[zuu] at l
  have la:=congrArg List.length ea
  have lb:=congrArg List.length eb
  simp only[List.length_append] at la lb
  have z1:a'=[]:=List.length_eq_zero_iff.mp (by exact Nat.le_antisymm (zP 646374601994211573695018 rfl l la) (zw 65592 rfl))
  have z2:b'=[]:=List.length_eq_zero_iff.mp (by exact Nat.le_antisymm (zP 646374601994211573695018 rfl l lb) (zw 65592 rfl))
  have z3:s=[]:=List.length_eq_zero_iff.mp (by exact Nat.le_antisymm (zP 948606056897868867371562 rfl l la) (zw 65592 rfl))
  subst z1 z2 z3
  rw[List.append_nil,List.append_nil] at ea
  exact .inl ⟨rfl,e,ea.symm,rfl,rfl,rfl⟩
 ·refine .inr ⟨q,L2,?_⟩
  have hl:=l.symm.trans l2
  rw[ea,List.append_assoc,List.append_assoc] at ea2
  rw[eb,List.append_assoc,List.append_assoc] at eb2
  obtain⟨e1,e2⟩:=List.append_inj ea2 hl
  obtain⟨rfl,rfl,rfl⟩:=zqj e2 (List.append_inj eb2 hl).2 A A2
  subst e1
  exact⟨hc,hp,e⟩
theorem znn {H:Tx→Tx→Option HM→Prop}{a b p s:Tx}{L:Row} (A:Apart a b) (hc:CompR H a b L) (hp:phi (yO p++L++yO s)<100):
  a.length+b.length=ze L+2 * zbj L∧p.length+s.length+zbj L≤zbj (zB 100 (yO p++L++yO s)):=by
 have C:=zfx hc A
 have hN:NE (yO p++L++yO s):=((zfm p).append C.n).append (zfm s)
 have hK:zk (yO p++L++yO s):=((zL p).append C.k).append (zL s)
 obtain⟨k1,k5⟩:=zg1 100 _ hK hp
 have n2:=(zh9 100 _ hN hK hp).2.1
 have t1:=zh7 hK
 have u1:=yZ hK
 have u2:=yZ k1
 have u3:=yZ C.k
 rw[k5 _ (.inl rfl),k5 _ (.inr rfl)] at u2
 rw[C.m,C.p] at u3
 refine⟨u3,?_⟩
 have e:zbj (yO p++L++yO s)=p.length+zbj L+s.length:=by rw[zde,zde,zfv,zfv]
 exact zn7 173484191328723259442545300933817328640228828029689254078131671420530917928 rfl n2 t1 u1 u2 e
theorem ztb {a b:Tx}{L:Row}{h:HM} (hc:CompR (HT 1) a b L) (hh:HT 1 a b (some h)) (no: ¬z6f a b) (h1:(if b.length<a.length then b.length else a.length)≠1): ∃L1 L2,L=L1++(0,h.c)::L2∧MainR (HT 1) h.a1 h.b1 L1∧MainR (HT 1) h.a2 h.b2 L2:=by
 have ex: ∀{M:Prop},z6f a b→M:=fun q=>(no q).elim
 have nn: ∀{M:Prop},HNo (HT 1) a b→M:=fun q=>nomatch (show some h=_ from hh).trans (show(none:Option HM)=_ from q.1).symm
 cases hc with
 | ins hb=>exact ex ⟨0,by have q: ¬b.length<([]:Tx).length:=Nat.not_lt_zero _;rw[if_neg q,if_neg q];exact⟨Nat.zero_le _,rfl⟩⟩
 | del ha=>exact ex ⟨0,by have q:([]:Tx).length<a.length:=List.length_pos_iff.mpr ha;rw[if_pos q,if_pos q];exact⟨Nat.zero_le _,rfl⟩⟩
 | inA hb hl hf=>exact ex ⟨_,by rw[if_pos hl,if_pos hl];exact zfh _ _ _⟩
 | inB ha hl hf=>exact ex ⟨_,by rw[if_neg (Nat.not_lt.mpr hl),if_neg (Nat.not_lt.mpr hl)];exact zfh _ _ _⟩
 | one _ _ q _=>exact(h1 q).elim
 | half _ h2 _ R1 R2=>
  have e:=(show some h=_ from hh).trans (show some _=_ from h2).symm
  cases e
  exact⟨_,_,rfl,R1,R2⟩
 | none _ _ _ q=>exact nn q
 | bis _ q=>exact nn q
theorem flo {a b:Tx}{n w:Nat}{f:Bool} (F:FloR a b n f w): ∀L,MainR (HT 1) a b L→n≤zbj L∧(f=true→MainR (HT 0) a b L)∧(0<w→Lk w L):=by
 induction F with
 | @tab a b p s a' b' R S hR hc=>
  intro L h
  rcases zg3 S h with ⟨rfl,rfl,rfl,rfl,rfl,rfl⟩ | ⟨hne,L',hc',hp,rfl⟩
  ·exact⟨by rw[zfv];exact Nat.le_refl _,fun _=> .same _,fun q=>(Nat.lt_irrefl _ q).elim⟩
  ·have c0:=zwn hc' (by
    rcases hc with q | q | q
    ·exact .inl (.inr fun c hc h1 h2=>absurd (zs3 hR h1 h2) (by exact Nat.not_le.mpr (zc 41545218998167142953 rfl q hc)))
    ·exact .inl (.inl q)
    ·exact .inr ((zuj hR).mp q))
   have M0:MainR (HT 0) a b (zB 100 (yO p++L'++yO s)):=by
    have:=S.ea;subst this
    have:=S.eb;subst this
    exact .diff hne S.l S.A c0 hp
   have G:=zaj M0
   have o:=G.o zpy
   have k:=yZ G.k
   rw[G.m,G.p,o,S.ea,S.eb,zlf] at k
   have q:=zkh a' b'
   simp only[List.length_append] at k
   exact⟨by exact zlw 4700243399857109792907970247656219754252922819119682603 rfl q k,fun _=>M0,fun q=>(Nat.lt_irrefl _ q).elim⟩
 | @half a b p s a' b' S=>
  intro L h
  refine⟨?_,fun q=>(nomatch q),fun q=>(Nat.lt_irrefl _ q).elim⟩
  rcases zg3 S h with ⟨rfl,rfl,rfl,rfl,rfl,rfl⟩ | ⟨hne,L',hc',hp,rfl⟩
  ·rw[zfv];exact Nat.le_refl _
  ·obtain⟨k1,k2⟩:=znn S.A hc' hp
   have t:=zu1.2 hc' S.A
   have q:=zkh a' b'
   exact zn7 3052215801997623730902181405502540764636783470898401248655922899276494266528556787438666 rfl k1 k2 t q (Nat.div_mul_le_self _ _)
 | @deep a b p s a' b' R n1 n2 w1 w2 f1 f2 hm S hR hc hh F1 F2 i1 i2=>
  intro L h
  have ok:=(zil hh).1
  have c0:=List.length_pos_iff.mpr ok.c0
  rcases zg3 S h with ⟨rfl,rfl,rfl,rfl,rfl,rfl⟩ | ⟨hne,L',hc',hp,rfl⟩
  ·have:=congrArg List.length ok.ea
   simp only[List.length_append,List.length_nil] at this
   lia
  ·obtain⟨L1,L2,rfl,R1,R2⟩:=ztb hc' hh (fun q=>hc (.inr (.inr ((zuj hR).mpr q)))) (fun q=>hc (.inl (by
    have:=zua hR
    split at q<;>lia)))
   have j1:=(i1 _ R1).1
   have j2:=(i2 _ R2).1
   have k:=(znn S.A hc' hp).2
   rw[zde] at k
   replace k:p.length+s.length+(zbj L1+(hm.c.length+zbj L2))≤_:=k
   exact⟨by exact zpr 2671994322870636954788961980900638735256426398679592 rfl j1 j2 k,fun q=>(nomatch q),fun q=>zqm q _ _ ((Lk.head (p:=(0,hm.c)) rfl (Nat.le_refl _)).right.right.left)⟩
noncomputable def zjw:List Str:=["left","right"]
noncomputable def zh1:List Str:=["longest","runs","rows","sign","new_runs","new_rows","place"]
noncomputable def zhc:List (Str×NameKind):=[("len",.globalImplicit),("range",.globalImplicit),("max",.globalImplicit)]
noncomputable def zgr:List Str:=[]
noncomputable def ze6:List Sm:=[
  .expr (.me (.var 6) .append [.bin .Add (.idx (.var 3) (.var 8)) (.lit (.int 1))]),
  .expr (.me (.var 7) .append [.bin .Add (.idx (.var 4) (.var 8)) (.lit (.int 1))])]
noncomputable def zfb:List Sm:=[
  .expr (.me (.var 6) .append [.lit (.int 0)]),
  .expr (.me (.var 7) .append [.bi .max [.idx (.var 4) (.bin .Add (.var 8) (.lit (.int 1))),.idx (.var 7) (.var 8)]])]
noncomputable def zcm:List Sm:=[
  .ife (.cmp (.idx (.var 1) (.var 8)) [.Eq] [.var 5]) ze6 zfb]
noncomputable def zcp:List Sm:=[
  .assign [.tup [6,7]] (.tup [.list [.lit (.int 0)],.list [.lit (.int 0)]]),
  .fr (.var 8) (.bi .range [.bi .len [.var 1]]) zcm,
  .assign [.tup [3,4]] (.tup [.var 6,.var 7]),
  .assign [.var 2] (.bi .max [.var 2,.bi .max [.var 3]])]
noncomputable def zba:List Sm:=[
  .assign [.var 2] (.lit (.int 0)),
  .assign [.var 3] (.bin .Mult (.list [.lit (.int 0)]) (.bin .Add (.bi .len [.var 1]) (.lit (.int 1)))),
  .assign [.var 4] (.bin .Mult (.list [.lit (.int 0)]) (.bin .Add (.bi .len [.var 1]) (.lit (.int 1)))),
  .fr (.var 5) (.var 0) zcp,
  .ret (.tup [.var 2,.idx (.var 4) (.neg (.lit (.int 1)))])]
theorem zxt (u v:Tx) (c d:Char):lcs (u++[c]) (v++[d])=if c=d then lcs u v+1 else 0:=by
 unfold lcs
 rw[List.reverse_append,List.reverse_append]
 rfl
theorem zty (u v:Tx) (c d:Char):zm (u++[c]) (v++[d])=if c=d then zm u v else min (zm u (v++[d])) (zm (u++[c]) v)+1:=by
 rw[←zp,←zp u v,←zp u (v++[d]),←zp (u++[c]) v,List.reverse_append,List.reverse_append]
 rfl
theorem zs8 (x y:Nat):(if (x:Int)<y then(y:Int) else x)=((max x y:Nat):Int):=by
 by_cases h:x<y
 ·rw[if_pos (Int.ofNat_lt.mpr h),Nat.max_eq_right (Nat.le_of_lt h)]
 ·rw[if_neg fun q=>h (Int.ofNat_lt.mp q),Nat.max_eq_left (Nat.le_of_not_lt h)]
theorem zpe {l d x l' d' y:Nat} (h:l=d+2 * x) (h':l'=d'+2 * y) (e:l+d'=l'+d):x=y:=Nat.le_antisymm (zk8 28622766322448947019843770892248031179052075 rfl h h' e) (zk8 12027877830698630171682154662667826403869226 rfl h h' e)
theorem zzy {l d x d' y:Nat} (h:l=d+2 * x) (h':l=d'+2 * y) (e:d≤d'):y≤x:=za9 11470678172849156862445918144923566634 rfl h h' e
theorem zxy (u v:Tx) (c d:Char):lcq (u++[c]) (v++[d])=if c=d then lcq u v+1 else max (lcq u (v++[d])) (lcq (u++[c]) v):=by
 have e:=zty u v c d
 have h1:=zkh (u++[c]) (v++[d])
 by_cases q:c=d
 ·have h2:=zkh u v
  rw[if_pos q] at e ⊢
  rw[e,List.length_append,List.length_append] at h1
  exact zpe (y:=lcq u v+1) (l':=u.length+v.length+2) h1 (by rw[h2];rfl) (by rw[List.length_singleton,List.length_singleton];exact Nat.le_antisymm (zf 1325025247019481930918077496 rfl) (zf 1320190713848941798956016696 rfl))
 ·have h3:=zkh u (v++[d])
  have h4:=zkh (u++[c]) v
  rw[if_neg q] at e ⊢
  rw[List.length_append] at h1 h3 h4
  rw[List.length_append] at h1
  rw[show(u.length+[c].length+v.length)=u.length+(v.length+[d].length) from Nat.add_right_comm _ _ _] at h4
  rcases Nat.le_total (zm u (v++[d])) (zm (u++[c]) v) with l | l
  ·rw[Nat.max_eq_left (zzy h3 h4 l)]
   rw[e,Nat.min_eq_left l] at h1
   exact zpe h1 h3 (by rw[List.length_singleton,List.length_singleton];exact Nat.le_antisymm (zf 644507412344037859043060294712 rfl) (zf 1351875290981311340804025918520 rfl))
  ·rw[Nat.max_eq_right (zzy h4 h3 l)]
   rw[e,Nat.min_eq_right l] at h1
   exact zpe h1 h4 (by rw[List.length_singleton,List.length_singleton];exact Nat.le_antisymm (zf 644507412344037859043060294712 rfl) (zf 1351875290981311340804025918520 rfl))
theorem z06 (b:Tx):lcq [] b=0:=by
 unfold lcq
 rw[zll,List.length_nil,Nat.zero_add,Nat.sub_self]
theorem zxu (a:Tx):lcq a []=0:=by
 unfold lcq
 rw[zbf,List.length_nil,Nat.add_zero,Nat.sub_self]
theorem zom (b:Tx):lcs [] b=0:=Nat.le_zero.mp (zcg [] b).1
theorem zyl (a:Tx):lcs a []=0:=Nat.le_zero.mp (zcg a []).2
theorem z1v (b:Tx):zc2 [] b 0:=⟨fun t k=>by rw[List.take_nil,zom];exact Nat.le_refl _,0,0,zom _⟩
theorem zxr {u b:Tx}{c:Char}{R M:Nat} (h:zc2 u b R) (h1: ∃j,M=lcs (u++[c]) (b.take j)) (h2: ∀j,j<b.length+1→lcs (u++[c]) (b.take j)≤M):zc2 (u++[c]) b (if R<M then M else R):=by
 have l1:R≤if R<M then M else R:=by split<;>omega
 have l2:M≤if R<M then M else R:=by split<;>omega
 refine⟨fun t k=>?_,?_⟩
 ·by_cases q:t≤u.length
  ·rw[List.take_append_of_le_length q]
   exact ntr (h.1 t k) l1
  ·rw[List.take_of_length_le (by rw[List.length_append,List.length_singleton];exact zc 5101777372906029 rfl q),zif b k]
   exact ntr (h2 _ (Nat.lt_succ_of_le (Nat.min_le_right _ _))) l2
 ·split
  ·obtain⟨j,e⟩:=h1
   exact⟨(u++[c]).length,j,by rw[List.take_length];exact e.symm⟩
  ·obtain⟨t,k,e⟩:=h.2
   refine⟨min t u.length,k,?_⟩
   rw[List.take_append_of_le_length (Nat.min_le_right _ _),←zif];exact e
noncomputable def tbN (F:Nat→Nat) (k:Nat):List Int:=(List.range' 0 k).map fun j:Nat=>(F j:Int)
theorem zdg (F:Nat→Nat) (k:Nat):((tbN F k).map V.int).length=k:=by unfold tbN;rw[List.length_map,List.length_map,List.length_range']
theorem zi7 {F:Nat→Nat}{k j:Nat} (h:j<k):zH ((tbN F k).map V.int) (j:Int)=some (.int (F j:Nat)):=by
 rw[yA _ _ (by rw[zdg];exact h)]
 unfold tbN
 rw[List.getElem?_map,List.getElem?_map,List.getElem?_range' h,Nat.zero_add,Nat.one_mul];rfl
theorem zdb {F:Nat→Nat}{k n:Nat} (e:n=F k):(tbN F k).map V.int++[V.int (n:Nat)]=(tbN F (k+1)).map V.int:=by
 unfold tbN
 rw[List.range'_concat,List.map_append,List.map_append,Nat.one_mul,Nat.zero_add,e];rfl
theorem zp0 {F:Nat→Nat} (h: ∀j,F j=0) (k:Nat):List.replicate k (V.int 0)=(tbN F k).map V.int:=by
 induction k with
 | zero=>rfl
 | succ k ih=>rw[List.replicate_succ',ih];exact zdb (n:=0) (h k).symm
theorem zwi {F:Nat→Nat}{k:Nat}{M:Int}:M∈tbN F k↔∃j,j<k∧M=F j:=by
 unfold tbN
 rw[List.mem_map]
 constructor
 ·rintro ⟨j,hj,e⟩
  exact⟨j,by have:=List.mem_range'_1.mp hj;exact zc 5071437857686057 rfl this.2,e.symm⟩
 ·rintro ⟨j,hj,e⟩
  exact⟨j,List.mem_range'_1.mpr ⟨Nat.zero_le _,by exact zc 5067653866127913 rfl hj⟩,e.symm⟩
section
variable {P:PC}{Q:V→Mem→Prop}{m:Mem}{a b:Tx}
noncomputable abbrev rnF (u b:Tx) (j:Nat):Nat:=lcs u (b.take j)
noncomputable abbrev rwF (u b:Tx) (j:Nat):Nat:=lcq u (b.take j)
noncomputable abbrev tbS (a b:Tx) (R:Nat) (l1 l2:Addr) (x y z w:Option V) (m:Mem):St:=⟨[some (.str a),some (.str b),some (.int (R:Nat)),some (.obj l1),some (.obj l2),x,y,z,w],m⟩
theorem z7d {u:Tx}{c:Char}{l1 l2 n k:Addr}{j R:Nat}{Q5:Fl→St→Prop} (hj:j<b.length) (hb:b.length≤1000) (h1:m l1=some (.list ((tbN (rnF u b) (b.length+1)).map V.int))) (h2:m l2=some (.list ((tbN (rwF u b) (b.length+1)).map V.int)))
  (hn:m n=some (.list ((tbN (rnF (u++[c]) b) (j+1)).map V.int))) (hk:m k=some (.list ((tbN (rwF (u++[c]) b) (j+1)).map V.int))) (nk:n≠k) (n2:n≠l2)
  (h:Q5 .next (tbS a b R l1 l2 (some (.str [c])) (some (.obj n)) (some (.obj k)) (some (.int j)) (upd (upd m n (.list ((tbN (rnF (u++[c]) b) (j+2)).map V.int))) k (.list ((tbN (rwF (u++[c]) b) (j+2)).map V.int))))):
  zs P zcm Q5 (tbS a b R l1 l2 (some (.str [c])) (some (.obj n)) (some (.obj k)) (some (.int j)) m):=by
 have tj:tiny (j:Int):=tiny_n (zc 9949073848255691747693418840617 rfl hj hb)
 have tj1:tiny ((j:Int)+1):=tiny_n (zc 10187851621656565362006604126945833 rfl hj hb)
 have e1:b.take (j+1)=b.take j++[b[j]]:=yW hj
 have sj:sma (j+1):=by unfold sma;exact zc 10187851621656565362006604126945833 rfl hj hb
 have r1:=zxt u (b.take j) c b[j]
 have r2:=zxy u (b.take j) c b[j]
 rw[←e1] at r1 r2
 have g1:=zi7 (F:=rnF u b) (Nat.lt_succ_of_lt hj)
 have g2:=zi7 (F:=rwF u b) (Nat.lt_succ_of_lt hj)
 have g3:=zi7 (F:=rwF u b) (Nat.succ_lt_succ hj)
 have g4:=zi7 (F:=rwF (u++[c]) b) (Nat.lt_succ_self j)
 unfold zcm
 refine ssn (zi fun K kt kf=>?_)
 walk_at "D"
 refine⟨tj,b[j],(yA _ _ hj).trans (List.getElem?_eq_getElem hj),?_⟩
 by_cases q:b[j]=c
 ·rw[decide_eq_true (congrArg (fun x=>[x]) q)]
  refine kt _ ?_
  rw[if_pos q.symm] at r1 r2
  unfold ze6
  refine za fun Q6 n6 _=>?_
  dsimp only[r_lit,r_var,r_bin,r_neg,r_not,r_list,r_tup,r_cmp,r_band,r_bor,r_idx,r_slc,r_attr,r_bi,r_call,r_me,r_imeth,r_comp,r_comp2,r_ite,r_ch2,r_es0,r_es1,r_ch1,r_bo1,r_bo2,r_tnot,r_tband,r_tbor,r_tcmp,r_tvar,r_tcall,r_tme,r_tidx,r_tbi,r_ts0,r_ts1,r_tgs0,r_tgs1,r_sexpr,r_sassign,r_saug,r_sdel,r_sife,r_swhl,r_sfr,r_sret,r_ss0,r_ss1,tg_var,tg_tup,tg_idx,tg_slc,bin_add,bin_sub,bin_mul,bin_div,bin_mod,bin_cat,cmp_eqi,cmp_eqs,cmp_nei,cmp_nes,cmp_lt,cmp_le,cmp_gt,cmp_ge,cmp_isn,cmp_ist,cmp_notn,cmp_nott,tr_none,tr_bool,tr_int,tr_str,tr_tup,ix_str,ix_tup,sl_ii,sl_in,sl_ni,bi_lens,bi_lent,bi_min,bi_max,bi_rng,bi_rng2,me_find,me_find2,ok_find,me_app,ok_app,me_ins,me_pop,me_join,me_ends,me_starts,ok_ins,ok_pop,ok_join,ok_ends,ok_starts,it_str,it_rng,neg_int,aug_addi,aug_adds,aug_subi,St.set,St.setAll,List.map_cons,List.map_nil,List.replicate,List.cons_append,List.nil_append,List.getElem?_cons_succ,List.getElem?_cons_zero,List.set_cons_succ,List.set_cons_zero,List.length_cons,List.length_nil,dreduceIte,retV,zrc]
  refine⟨⟨_,hn⟩,tj,_,_,h1,g1,?_⟩
  walk_at "D"
  refine⟨_,hn,by rw[zdg];exact sj,n6 _ (ssn ?_)⟩
  dsimp only[r_lit,r_var,r_bin,r_neg,r_not,r_list,r_tup,r_cmp,r_band,r_bor,r_idx,r_slc,r_attr,r_bi,r_call,r_me,r_imeth,r_comp,r_comp2,r_ite,r_ch2,r_es0,r_es1,r_ch1,r_bo1,r_bo2,r_tnot,r_tband,r_tbor,r_tcmp,r_tvar,r_tcall,r_tme,r_tidx,r_tbi,r_ts0,r_ts1,r_tgs0,r_tgs1,r_sexpr,r_sassign,r_saug,r_sdel,r_sife,r_swhl,r_sfr,r_sret,r_ss0,r_ss1,tg_var,tg_tup,tg_idx,tg_slc,bin_add,bin_sub,bin_mul,bin_div,bin_mod,bin_cat,cmp_eqi,cmp_eqs,cmp_nei,cmp_nes,cmp_lt,cmp_le,cmp_gt,cmp_ge,cmp_isn,cmp_ist,cmp_notn,cmp_nott,tr_none,tr_bool,tr_int,tr_str,tr_tup,ix_str,ix_tup,sl_ii,sl_in,sl_ni,bi_lens,bi_lent,bi_min,bi_max,bi_rng,bi_rng2,me_find,me_find2,ok_find,me_app,ok_app,me_ins,me_pop,me_join,me_ends,me_starts,ok_ins,ok_pop,ok_join,ok_ends,ok_starts,it_str,it_rng,neg_int,aug_addi,aug_adds,aug_subi,St.set,St.setAll,List.map_cons,List.map_nil,List.replicate,List.cons_append,List.nil_append,List.getElem?_cons_succ,List.getElem?_cons_zero,List.set_cons_succ,List.set_cons_zero,List.length_cons,List.length_nil,dreduceIte,retV,zrc]
  rw[show(tbN (rnF (u++[c]) b) (j+1)).map V.int++[V.int ((lcs u (b.take j):Nat)+1)]=_ from zdb (n:=lcs u (b.take j)+1) r1.symm]
  have hk':=(upn m (.list ((tbN (rnF (u++[c]) b) (j+2)).map V.int)) (Ne.symm nk)).trans hk
  refine⟨⟨_,hk'⟩,tj,_,_,(upn _ _ (Ne.symm n2)).trans h2,g2,?_⟩
  refine⟨_,hk',by rw[zdg];exact sj,?_⟩
  rw[show(tbN (rwF (u++[c]) b) (j+1)).map V.int++[V.int ((lcq u (b.take j):Nat)+1)]=_ from zdb (n:=lcq u (b.take j)+1) r2.symm]
  exact h
 ·rw[decide_eq_false (fun z=>q (List.head_eq_of_cons_eq z))]
  refine kf _ ?_
  rw[if_neg (Ne.symm q)] at r1 r2
  unfold zfb
  refine za fun Q6 n6 _=>?_
  walk_at "D"
  refine⟨⟨_,hn⟩,_,hn,by rw[zdg];exact sj,n6 _ (ssn ?_)⟩
  dsimp only[r_lit,r_var,r_bin,r_neg,r_not,r_list,r_tup,r_cmp,r_band,r_bor,r_idx,r_slc,r_attr,r_bi,r_call,r_me,r_imeth,r_comp,r_comp2,r_ite,r_ch2,r_es0,r_es1,r_ch1,r_bo1,r_bo2,r_tnot,r_tband,r_tbor,r_tcmp,r_tvar,r_tcall,r_tme,r_tidx,r_tbi,r_ts0,r_ts1,r_tgs0,r_tgs1,r_sexpr,r_sassign,r_saug,r_sdel,r_sife,r_swhl,r_sfr,r_sret,r_ss0,r_ss1,tg_var,tg_tup,tg_idx,tg_slc,bin_add,bin_sub,bin_mul,bin_div,bin_mod,bin_cat,cmp_eqi,cmp_eqs,cmp_nei,cmp_nes,cmp_lt,cmp_le,cmp_gt,cmp_ge,cmp_isn,cmp_ist,cmp_notn,cmp_nott,tr_none,tr_bool,tr_int,tr_str,tr_tup,ix_str,ix_tup,sl_ii,sl_in,sl_ni,bi_lens,bi_lent,bi_min,bi_max,bi_rng,bi_rng2,me_find,me_find2,ok_find,me_app,ok_app,me_ins,me_pop,me_join,me_ends,me_starts,ok_ins,ok_pop,ok_join,ok_ends,ok_starts,it_str,it_rng,neg_int,aug_addi,aug_adds,aug_subi,St.set,St.setAll,List.map_cons,List.map_nil,List.replicate,List.cons_append,List.nil_append,List.getElem?_cons_succ,List.getElem?_cons_zero,List.set_cons_succ,List.set_cons_zero,List.length_cons,List.length_nil,dreduceIte,retV,zrc]
  rw[show(tbN (rnF (u++[c]) b) (j+1)).map V.int++[V.int 0]=_ from zdb (n:=0) r1.symm]
  have hk':=(upn m (.list ((tbN (rnF (u++[c]) b) (j+2)).map V.int)) (Ne.symm nk)).trans hk
  refine⟨⟨_,hk'⟩,tj1,_,_,(upn _ _ (Ne.symm n2)).trans h2,g3,?_⟩
  refine⟨tj,_,_,hk',g4,?_⟩
  refine⟨_,hk',by rw[zdg];exact sj,?_⟩
  rw[zs8,zdb (F:=rwF (u++[c]) b) (k:=j+1) r2.symm]
  exact h
inductive Tb1 (a b u:Tx) (c:Char) (R:Nat) (l1 l2 n k:Addr) (m:Mem) (rest:List Nat) (σ:St):Prop
 | mk (j:Nat) (w:Option V) (m':Mem):σ=tbS a b R l1 l2 (some (.str [c])) (some (.obj n)) (some (.obj k)) w m'→j≤b.length→rest=List.range' j (b.length-j)→Gr m m'→m' n=some (.list ((tbN (rnF (u++[c]) b) (j+1)).map V.int))→m' k=some (.list ((tbN (rwF (u++[c]) b) (j+1)).map V.int))→Tb1 a b u c R l1 l2 n k m rest σ
inductive Tb0 (a b:Tx) (m:Mem) (rest:Tx) (σ:St):Prop
 | mk (u:Tx) (R:Nat) (l1 l2:Addr) (x y z w:Option V) (m':Mem):σ=tbS a b R l1 l2 x y z w m'→a=u++rest→Gr m m'→zc2 u b R→m' l1=some (.list ((tbN (rnF u b) (b.length+1)).map V.int))→m' l2=some (.list ((tbN (rwF u b) (b.length+1)).map V.int))→Tb0 a b m rest σ
theorem z50 {u:Tx}{c:Char}{l1 l2:Addr}{R:Nat}{y z w:Option V}{Q5:Fl→St→Prop} (hb:b.length≤1000) (hR:zc2 u b R) (h1:m l1=some (.list ((tbN (rnF u b) (b.length+1)).map V.int))) (h2:m l2=some (.list ((tbN (rwF u b) (b.length+1)).map V.int)))
  (h: ∀R n k w m',Gr m m'→zc2 (u++[c]) b R→m' n=some (.list ((tbN (rnF (u++[c]) b) (b.length+1)).map V.int))→m' k=some (.list ((tbN (rwF (u++[c]) b) (b.length+1)).map V.int))→Q5 .next (tbS a b R n k (some (.str [c])) (some (.obj n)) (some (.obj k)) w m')):
  zs P zcp Q5 (tbS a b R l1 l2 (some (.str [c])) y z w m):=by
 have sb:sma b.length:=ntr hb (by decide)
 unfold zcp
 refine za fun Q1 n1 r1=>?_
 walk_at "D"
 intro n hn k hk
 refine⟨rfl,n1 _ (za fun Q2 n2 r2=>?_)⟩
 have gn:=Gr.new hn (.list [V.int 0])
 have gk:=Gr.new hk (.list [V.int 0])
 have nk:n≠k:=fun e=>by subst e;rw[ups] at hk;cases hk
 have hn2:upd (upd m n (.list [V.int 0])) k (.list [V.int 0]) n=some (.list ((tbN (rnF (u++[c]) b) (0+1)).map V.int)):=by
  rw[upn _ _ nk,ups,show[V.int 0]=_ from zdb (F:=rnF (u++[c]) b) (k:=0) (n:=0) (zyl _).symm]
 have hk2:upd (upd m n (.list [V.int 0])) k (.list [V.int 0]) k=some (.list ((tbN (rwF (u++[c]) b) (0+1)).map V.int)):=by
  rw[ups,show[V.int 0]=_ from zdb (F:=rwF (u++[c]) b) (k:=0) (n:=0) (zxu _).symm]
 have g:=gn.trans gk
 have k0:=gn.fresh hk
 have nl:n≠l2:=fun e=>by subst e;rw[h2] at hn;cases hn
 generalize upd (upd m n (.list [V.int 0])) k (.list [V.int 0])=m2 at *
 simp only[r_sfr]
 walk_at "D"
 refine⟨sb,by exact tiny_n (zw 1186022025138818233926184 rfl hb),by walk_at "t",by exact tiny_n (zw 1186022025138818233926184 rfl hb),by walk_at "t",by decide,?_⟩
 rw[show zs4 0 (b.length:Int) 1=(List.range' 0 b.length).map fun j:Nat=>V.int j from zwk 0 b.length]
 refine zex (fun j:Nat=>V.int j) (Tb1 a b u c R l1 l2 n k m) (fun _ _ _=>trivial) (fun j l3 σ i Q6 n6 r6=>?_) (fun σ i=>?_) (List.range' 0 b.length) _ ⟨0,w,m2,rfl,Nat.zero_le _,rfl,g,hn2,hk2⟩
 ·obtain⟨i,w,m3,rfl,hi,er,g3,hn3,hk3⟩:=i
  have hib:i<b.length:=Nat.lt_of_le_of_ne hi fun q=>by rw[q,Nat.sub_self] at er;cases er
  rw[show b.length-i=(b.length-(i+1))+1 by exact Nat.le_antisymm (zP 41565117680677662798916690121770 rfl (Nat.sub_add_cancel (zc 4952567644713 rfl hib)) (Nat.sub_add_cancel (zc 5101777372906025 rfl hib))) (zP 45960152986639485102464923468331 rfl (Nat.sub_add_cancel (zc 4952567644713 rfl hib)) (Nat.sub_add_cancel (zc 5101777372906025 rfl hib))),List.range'_succ] at er
  obtain⟨rfl,rfl⟩:=List.cons.inj er
  walk_at "D"
  exact z7d hib hb (g3 _ _ h1) (g3 _ _ h2) hn3 hk3 nk nl (n6 _ ⟨j+1,_,_,rfl,hib,rfl,(g3.set hn _).set k0 _,(upn _ _ nk).trans (ups _ _ _),ups _ _ _⟩)
 ·obtain⟨i,w,m3,rfl,hi,er,g3,hn3,hk3⟩:=i
  have ek:i=b.length:=by
   have:=congrArg List.length er
   rw[List.length_range'] at this
   simp only[List.length_nil] at this
   exact Nat.le_antisymm (zc 4952567644712 rfl hi) (zf 80616316403062646243883 rfl this (Nat.sub_add_cancel (zc 4952567644712 rfl hi)))
  subst ek
  refine n2 _ (za fun Q3 n3 r3=>?_)
  walk_at "D"
  refine⟨rfl,n3 _ (ssn ?_)⟩
  dsimp only[r_lit,r_var,r_bin,r_neg,r_not,r_list,r_tup,r_cmp,r_band,r_bor,r_idx,r_slc,r_attr,r_bi,r_call,r_me,r_imeth,r_comp,r_comp2,r_ite,r_ch2,r_es0,r_es1,r_ch1,r_bo1,r_bo2,r_tnot,r_tband,r_tbor,r_tcmp,r_tvar,r_tcall,r_tme,r_tidx,r_tbi,r_ts0,r_ts1,r_tgs0,r_tgs1,r_sexpr,r_sassign,r_saug,r_sdel,r_sife,r_swhl,r_sfr,r_sret,r_ss0,r_ss1,tg_var,tg_tup,tg_idx,tg_slc,bin_add,bin_sub,bin_mul,bin_div,bin_mod,bin_cat,cmp_eqi,cmp_eqs,cmp_nei,cmp_nes,cmp_lt,cmp_le,cmp_gt,cmp_ge,cmp_isn,cmp_ist,cmp_notn,cmp_nott,tr_none,tr_bool,tr_int,tr_str,tr_tup,ix_str,ix_tup,sl_ii,sl_in,sl_ni,bi_lens,bi_lent,bi_min,bi_max,bi_rng,bi_rng2,me_find,me_find2,ok_find,me_app,ok_app,me_ins,me_pop,me_join,me_ends,me_starts,ok_ins,ok_pop,ok_join,ok_ends,ok_starts,it_str,it_rng,neg_int,aug_addi,aug_adds,aug_subi,St.set,St.setAll,List.map_cons,List.map_nil,List.replicate,List.cons_append,List.nil_append,List.getElem?_cons_succ,List.getElem?_cons_zero,List.set_cons_succ,List.set_cons_zero,List.length_cons,List.length_nil,dreduceIte,retV,zu8]
  refine⟨_,hn3,by have:=zdg (rnF (u++[c]) b) (b.length+1);rw[List.length_map] at this;exact zc 5067039815242795 rfl this,fun M hM hA=>?_⟩
  obtain⟨j,hj,rfl⟩:=zwi.mp hM
  have hr:=zxr (c:=c) hR ⟨j,rfl⟩ fun i hi=>Int.ofNat_le.mp (hA _ (zwi.mpr ⟨i,hi,rfl⟩))
  have:=h _ n k w m3 g3 hr hn3 hk3
  have e:(if (R:Int)<(rnF (u++[c]) b j:Int) then(rnF (u++[c]) b j:Int) else(R:Int))=((if R<lcs (u++[c]) (b.take j) then lcs (u++[c]) (b.take j) else R:Nat):Int):=by
   by_cases q:R<lcs (u++[c]) (b.take j)
   ·rw[if_pos q,if_pos (Int.ofNat_lt.mpr q)]
   ·rw[if_neg q,if_neg fun z=>q (Int.ofNat_lt.mp z)]
  rw[e]
  exact this
theorem zxi (ha:a.length≤1000) (hb:b.length≤1000) (h: ∀m' R,Gr m m'→zc2 a b R→Q (.tup [.int (R:Nat),.int (lcq a b:Nat)]) m'):
  zs P zba (fun fl σ'=>Q (retV fl) σ'.mem) ⟨[V.str a,.str b].map some++List.replicate 7 none,m⟩:=by
 have sb:sma b.length:=ntr hb (by decide)
 have sa:sma a.length:=ntr ha (by decide)
 show zs P _ _ ⟨[some (.str a),some (.str b),none,none,none,none,none,none,none],m⟩
 unfold zba
 refine za fun Q1 n1 r1=>?_
 walk_at "D"
 refine n1 _ (za fun Q2 n2 r2=>?_)
 dsimp only[r_lit,r_var,r_bin,r_neg,r_not,r_list,r_tup,r_cmp,r_band,r_bor,r_idx,r_slc,r_attr,r_bi,r_call,r_me,r_imeth,r_comp,r_comp2,r_ite,r_ch2,r_es0,r_es1,r_ch1,r_bo1,r_bo2,r_tnot,r_tband,r_tbor,r_tcmp,r_tvar,r_tcall,r_tme,r_tidx,r_tbi,r_ts0,r_ts1,r_tgs0,r_tgs1,r_sexpr,r_sassign,r_saug,r_sdel,r_sife,r_swhl,r_sfr,r_sret,r_ss0,r_ss1,tg_var,tg_tup,tg_idx,tg_slc,bin_add,bin_sub,bin_mul,bin_div,bin_mod,bin_cat,cmp_eqi,cmp_eqs,cmp_nei,cmp_nes,cmp_lt,cmp_le,cmp_gt,cmp_ge,cmp_isn,cmp_ist,cmp_notn,cmp_nott,tr_none,tr_bool,tr_int,tr_str,tr_tup,ix_str,ix_tup,sl_ii,sl_in,sl_ni,bi_lens,bi_lent,bi_min,bi_max,bi_rng,bi_rng2,me_find,me_find2,ok_find,me_app,ok_app,me_ins,me_pop,me_join,me_ends,me_starts,ok_ins,ok_pop,ok_join,ok_ends,ok_starts,it_str,it_rng,neg_int,aug_addi,aug_adds,aug_subi,St.set,St.setAll,List.map_cons,List.map_nil,List.replicate,List.cons_append,List.nil_append,List.getElem?_cons_succ,List.getElem?_cons_zero,List.set_cons_succ,List.set_cons_zero,List.length_cons,List.length_nil,dreduceIte,retV,zsq]
 intro q1 hq1
 have tb:tiny ((b.length:Int)+1):=tiny_n (zw 1214486553866453809977360936 rfl hb)
 have ts:sma ((b.length:Int)+1).toNat:=show b.length+1≤1000000 by exact zw 1214486553866453809977360936 rfl hb
 refine⟨sb,_,ups _ _ _,tb,ts,fun l1 hl1=>n2 _ (za fun Q3 n3 r3=>?_)⟩
 dsimp only[r_lit,r_var,r_bin,r_neg,r_not,r_list,r_tup,r_cmp,r_band,r_bor,r_idx,r_slc,r_attr,r_bi,r_call,r_me,r_imeth,r_comp,r_comp2,r_ite,r_ch2,r_es0,r_es1,r_ch1,r_bo1,r_bo2,r_tnot,r_tband,r_tbor,r_tcmp,r_tvar,r_tcall,r_tme,r_tidx,r_tbi,r_ts0,r_ts1,r_tgs0,r_tgs1,r_sexpr,r_sassign,r_saug,r_sdel,r_sife,r_swhl,r_sfr,r_sret,r_ss0,r_ss1,tg_var,tg_tup,tg_idx,tg_slc,bin_add,bin_sub,bin_mul,bin_div,bin_mod,bin_cat,cmp_eqi,cmp_eqs,cmp_nei,cmp_nes,cmp_lt,cmp_le,cmp_gt,cmp_ge,cmp_isn,cmp_ist,cmp_notn,cmp_nott,tr_none,tr_bool,tr_int,tr_str,tr_tup,ix_str,ix_tup,sl_ii,sl_in,sl_ni,bi_lens,bi_lent,bi_min,bi_max,bi_rng,bi_rng2,me_find,me_find2,ok_find,me_app,ok_app,me_ins,me_pop,me_join,me_ends,me_starts,ok_ins,ok_pop,ok_join,ok_ends,ok_starts,it_str,it_rng,neg_int,aug_addi,aug_adds,aug_subi,St.set,St.setAll,List.map_cons,List.map_nil,List.replicate,List.cons_append,List.nil_append,List.getElem?_cons_succ,List.getElem?_cons_zero,List.set_cons_succ,List.set_cons_zero,List.length_cons,List.length_nil,dreduceIte,retV,zsq]
 intro q2 hq2
 refine⟨sb,_,ups _ _ _,tb,ts,fun l2 hl2=>n3 _ (za fun Q4 n4 r4=>?_)⟩
 rw[show((b.length:Int)+1).toNat=b.length+1 from rfl] at *
 have g1:=(Gr.new hq1 (.list [V.int 0])).trans (Gr.new hl1 (.list (List.replicate (b.length+1) (V.int 0))))
 have g2:=(Gr.new hq2 (.list [V.int 0])).trans (Gr.new hl2 (.list (List.replicate (b.length+1) (V.int 0))))
 simp only[r_sfr]
 walk_at "D"
 refine⟨sa,?_⟩
 refine zex (fun c:Char=>V.str [c]) (Tb0 a b m) (fun _ _ _=>trivial) (fun c l' σ i Q5 n5 r5=>?_) (fun σ i=>?_) a _ ⟨[],0,l1,l2,none,none,none,none,_,rfl,rfl,g1.trans g2,z1v b,
  (g2 _ _ (ups _ _ _)).trans (congrArg (fun l=>some (O.list l)) (zp0 (F:=rnF [] b) (fun j=>zom _) (b.length+1))),(ups _ _ _).trans (congrArg (fun l=>some (O.list l)) (zp0 (F:=rwF [] b) (fun j=>z06 _) (b.length+1)))⟩
 ·obtain⟨u,R,l1,l2,x,y,z,w,m1,rfl,e,g,hR,h1,h2⟩:=i
  walk_at "D"
  exact z50 hb hR h1 h2 fun R n k w m' g' hR' hn hk=>n5 _ ⟨u++[c],R,n,k,_,_,_,w,m',rfl,by rw[e,List.append_assoc];rfl,g.trans g',hR',hn,hk⟩
 ·obtain⟨u,R,l1,l2,x,y,z,w,m1,rfl,e,g,hR,h1,h2⟩:=i
  rw[List.append_nil] at e
  subst e
  refine n4 _ (ssn ?_)
  dsimp only[r_lit,r_var,r_bin,r_neg,r_not,r_list,r_tup,r_cmp,r_band,r_bor,r_idx,r_slc,r_attr,r_bi,r_call,r_me,r_imeth,r_comp,r_comp2,r_ite,r_ch2,r_es0,r_es1,r_ch1,r_bo1,r_bo2,r_tnot,r_tband,r_tbor,r_tcmp,r_tvar,r_tcall,r_tme,r_tidx,r_tbi,r_ts0,r_ts1,r_tgs0,r_tgs1,r_sexpr,r_sassign,r_saug,r_sdel,r_sife,r_swhl,r_sfr,r_sret,r_ss0,r_ss1,tg_var,tg_tup,tg_idx,tg_slc,bin_add,bin_sub,bin_mul,bin_div,bin_mod,bin_cat,cmp_eqi,cmp_eqs,cmp_nei,cmp_nes,cmp_lt,cmp_le,cmp_gt,cmp_ge,cmp_isn,cmp_ist,cmp_notn,cmp_nott,tr_none,tr_bool,tr_int,tr_str,tr_tup,ix_str,ix_tup,sl_ii,sl_in,sl_ni,bi_lens,bi_lent,bi_min,bi_max,bi_rng,bi_rng2,me_find,me_find2,ok_find,me_app,ok_app,me_ins,me_pop,me_join,me_ends,me_starts,ok_ins,ok_pop,ok_join,ok_ends,ok_starts,it_str,it_rng,neg_int,aug_addi,aug_adds,aug_subi,St.set,St.setAll,List.map_cons,List.map_nil,List.replicate,List.cons_append,List.nil_append,List.getElem?_cons_succ,List.getElem?_cons_zero,List.set_cons_succ,List.set_cons_zero,List.length_cons,List.length_nil,dreduceIte,retV,zrc]
  have eL:zH ((tbN (rwF a b) (b.length+1)).map V.int) (-1)=some (.int (lcq a b:Nat)):=by
   have e:=zi7 (F:=rwF a b) (Nat.lt_succ_self b.length)
   rw[yA _ _ (by rw[zdg];exact Nat.lt_succ_self _)] at e
   rw[zc1 _ (by rw[zdg];exact Nat.succ_pos _),zdg,Nat.add_sub_cancel,e,show rwF a b b.length=lcq a b from congrArg (lcq a) List.take_length]
  exact⟨by walk_at "t",_,_,h2,eL,h m1 R g hR⟩
end
noncomputable def zlu:List Str:=["tool","first","second"]
noncomputable def zij:List Str:=["kept","run","best","longer","shorter","first_head","first_tail","second_head","second_tail","common","before","after"]
noncomputable def zh2:List (Str×NameKind):=[("_law_tables",.globalImplicit),("max",.globalImplicit),("len",.globalImplicit),("min",.globalImplicit),("_law_floor",.globalImplicit)]
noncomputable def zhz:List Str:=[]
noncomputable def zdo:List Sm:=[
  .assign [.tup [1,2,3]] (.tup [.slc (.var 1) (.lit (.int 1)) (.lit .none) (.lit .none),.slc (.var 2) (.lit (.int 1)) (.lit .none) (.lit .none),.bin .Add (.var 3) (.lit (.int 1))])]
noncomputable def zdl:List Sm:=[
  .assign [.tup [1,2,3]] (.tup [.slc (.var 1) (.lit .none) (.neg (.lit (.int 1))) (.lit .none),.slc (.var 2) (.lit .none) (.neg (.lit (.int 1))) (.lit .none),.bin .Add (.var 3) (.lit (.int 1))])]
noncomputable def zbs:List Sm:=[
  .assign [.var 3] (.lit (.int 0)),
  .whl (.band [.cmp (.var 1) [.NotEq] [.lit (.str [])],.cmp (.var 2) [.NotEq] [.lit (.str [])],.cmp (.idx (.var 1) (.lit (.int 0))) [.Eq] [.idx (.var 2) (.lit (.int 0))]]) zdo,
  .whl (.band [.cmp (.var 1) [.NotEq] [.lit (.str [])],.cmp (.var 2) [.NotEq] [.lit (.str [])],.cmp (.idx (.var 1) (.neg (.lit (.int 1)))) [.Eq] [.idx (.var 2) (.neg (.lit (.int 1)))]]) zdl,
  .assign [.tup [4,5]] (.call "_law_tables" [.var 1,.var 2]),
  .assign [.tup [6,7]] (.tup [.bi .max [.bi .len [.var 1],.bi .len [.var 2]],.bi .min [.bi .len [.var 1],.bi .len [.var 2]]]),
  .ife (.bor [.cmp (.var 4) [.Lt] [.lit (.int 2)],.cmp (.var 6) [.Lt] [.lit (.int 4)],.cmp (.var 4) [.Eq] [.var 7]]) [
   .ret (.tup [.bin .Add (.var 3) (.var 5),.lit (.bool true),.lit (.int 0)])] [],
  .ife (.cmp (.bin .Mult (.lit (.int 2)) (.var 4)) [.Lt] [.var 6]) [
   .ret (.tup [.bin .Add (.var 3) (.bin .FloorDiv (.bin .Add (.var 5) (.lit (.int 1))) (.lit (.int 2))),.lit (.bool false),.lit (.int 0)])] [],
  .assign [.tup [8,9,10,11,12]] (.imeth (.var 0) "diff_halfMatch" [.var 1,.var 2]),
  .assign [.var 13] (.idx (.call "_law_floor" [.var 0,.var 8,.var 10]) (.lit (.int 0))),
  .assign [.var 14] (.idx (.call "_law_floor" [.var 0,.var 9,.var 11]) (.lit (.int 0))),
  .ret (.tup [.bin .Add (.bin .Add (.bin .Add (.var 3) (.bi .len [.var 12])) (.var 13)) (.var 14),.lit (.bool false),.bi .len [.var 12]])]
theorem z44 {P:PC}{c:Ex}{b:List Sm}{Q:Fl→St→Prop}{σ:St} (I:Nat→St→Prop) (i: ∃n,I n σ) (step: ∀n σ',I n σ'→∀(K:Bool→St→Prop) (Q1:Fl→St→Prop),(∀σ₂,zs P b Q1 σ₂→K true σ₂)→(∀k σ₂,k<n→I k σ₂→Q1 .next σ₂)→(∀σ₂,Q .next σ₂→K false σ₂)→wpT P c (wpE P c) K σ'):wpS P (.whl c b) Q σ:=
 ⟨I,i,fun n σ' h=>step n σ' h _ _ (fun _ q=>q) (fun k _ hk hi=>⟨k,hk,hi⟩) fun _ q=>q⟩
theorem zsp (a b:Tx): ∀c:Tx,lcp (c++a) (c++b)=c.length+lcp a b
 | []=>(Nat.zero_add _).symm
 | x::c=>by rw[List.cons_append,List.cons_append,lcp,if_pos rfl,zsp a b c,List.length_cons,Nat.add_right_comm]
theorem zh6 {x:Tx}:zH x 0=x.head? :=by
 cases x with
 | nil=>rfl
 | cons a x=>exact yA (a::x) 0 (Nat.succ_pos _)
theorem zie {x:Tx}{v:Char}:zH (x++[v]) (-1)=some v:=by
 rw[zc1 _ (by rw[List.length_append];exact Nat.succ_pos _),List.length_append,List.length_singleton,Nat.add_sub_cancel,List.getElem?_append_right (Nat.le_refl _),Nat.sub_self];rfl
theorem z3p (x y:Nat):(if (y:Int)<x then(y:Int) else x)=((min x y:Nat):Int):=by
 by_cases h:y<x
 ·rw[if_pos (Int.ofNat_lt.mpr h),Nat.min_eq_right (Nat.le_of_lt h)]
 ·rw[if_neg fun q=>h (Int.ofNat_lt.mp q),Nat.min_eq_left (Nat.le_of_not_lt h)]
noncomputable def HdN (a b:Tx):Prop:= ∀x y as bs,a=x::as→b=y::bs→x≠y
theorem z27 {a b:Tx} (h:HdN a b):lcp a b=0:=by
 cases a with
 | nil=>cases b<;>rfl
 | cons x a=>cases b with
  | nil=>rfl
  | cons y b=>unfold lcp;rw[if_neg (h x y a b rfl rfl)]
section
variable {P:PC}{Q:Fl→St→Prop}{m:Mem}{t:Addr}{a b:Tx}
noncomputable abbrev flS (t:Addr) (a b:Tx) (k:Nat) (x4 x5 x6 x7 x8 x9 x10 x11 x12 x13 x14:Option V) (m:Mem):St:=⟨[some (.obj t),some (.str a),some (.str b),some (.int (k:Nat)),x4,x5,x6,x7,x8,x9,x10,x11,x12,x13,x14],m⟩
variable {x4 x5 x6 x7 x8 x9 x10 x11 x12 x13 x14:Option V}
theorem z7p (ha:a.length≤1000) (hb:b.length≤1000) (h: ∀p a1 b1,a=p++a1→b=p++b1→HdN a1 b1→Q .next (flS t a1 b1 p.length x4 x5 x6 x7 x8 x9 x10 x11 x12 x13 x14 m)):
  wpS P (.whl (.band [.cmp (.var 1) [.NotEq] [.lit (.str [])],.cmp (.var 2) [.NotEq] [.lit (.str [])],.cmp (.idx (.var 1) (.lit (.int 0))) [.Eq] [.idx (.var 2) (.lit (.int 0))]]) zdo) Q (flS t a b 0 x4 x5 x6 x7 x8 x9 x10 x11 x12 x13 x14 m):=by
 have t0:tiny 0:=by walk_at "t"
 refine z44 (fun z σ=> ∃p a1 b1,σ=flS t a1 b1 p.length x4 x5 x6 x7 x8 x9 x10 x11 x12 x13 x14 m∧z=a1.length∧a=p++a1∧b=p++b1) ⟨_,[],a,b,rfl,rfl,rfl,rfl⟩ ?_
 rintro z _ ⟨p,a1,b1,rfl,rfl,ea,eb⟩ K Q1 kt k1 kf
 have la:=congrArg List.length ea
 have lb:=congrArg List.length eb
 simp only[List.length_append] at la lb
 walk_at "D"
 cases a1 with
 | nil=>exact kf _ (h p _ _ ea eb fun _ _ _ _ q=>nomatch q)
 | cons x a1=>
  cases b1 with
  | nil=>exact kf _ (h p _ _ ea eb fun _ _ _ _ _ q=>nomatch q)
  | cons y b1=>
   rw[decide_eq_false (List.cons_ne_nil x a1),decide_eq_false (List.cons_ne_nil y b1)]
   refine⟨t0,x,zh6,t0,y,zh6,?_⟩
   by_cases q:x=y
   ·subst q
    rw[decide_eq_true rfl]
    refine kt _ ?_
    unfold zdo
    refine ssn ?_
    walk_at "D"
    have e1: ∀u:Tx,zcq (x::u) (some 1) none=u:=fun u=>zJ (x::u) (a:=1) (Nat.succ_le_succ (Nat.zero_le _))
    rw[e1,e1]
    rw[List.length_cons] at la lb
    refine⟨by unfold sma;exact zf 10682736702049961686576742190657568768552 rfl ha la,by unfold sma;exact zf 10682736702049961686576742190657568768552 rfl hb lb,rfl,k1 a1.length _ (Nat.lt_succ_self _) ⟨p++[x],a1,b1,?_,rfl,by rw[ea,List.append_assoc];rfl,by rw[eb,List.append_assoc];rfl⟩⟩
    rw[List.length_append];rfl
   ·rw[decide_eq_false (show ¬[x]=[y] from fun z=>q (List.head_eq_of_cons_eq z))]
    exact kf _ (h p _ _ ea eb fun _ _ _ _ q1 q2=>by cases q1;cases q2;exact q)
theorem z8t {k:Nat} (ha:a.length≤1000) (hb:b.length≤1000) (h: ∀s a1 b1,a=a1++s→b=b1++s→(∀x y as bs,a1=as++[x]→b1=bs++[y]→x≠y)→Q .next (flS t a1 b1 (k+s.length) x4 x5 x6 x7 x8 x9 x10 x11 x12 x13 x14 m)):
  wpS P (.whl (.band [.cmp (.var 1) [.NotEq] [.lit (.str [])],.cmp (.var 2) [.NotEq] [.lit (.str [])],.cmp (.idx (.var 1) (.neg (.lit (.int 1)))) [.Eq] [.idx (.var 2) (.neg (.lit (.int 1)))]]) zdl) Q (flS t a b k x4 x5 x6 x7 x8 x9 x10 x11 x12 x13 x14 m):=by
 have tm:tiny (-1):=by walk_at "t"
 refine z44 (fun z σ=> ∃s a1 b1,σ=flS t a1 b1 (k+s.length) x4 x5 x6 x7 x8 x9 x10 x11 x12 x13 x14 m∧z=a1.length∧a=a1++s∧b=b1++s) ⟨_,[],a,b,rfl,rfl,(List.append_nil _).symm,(List.append_nil _).symm⟩ ?_
 rintro z _ ⟨s,a1,b1,rfl,rfl,ea,eb⟩ K Q1 kt k1 kf
 have la:=congrArg List.length ea
 have lb:=congrArg List.length eb
 simp only[List.length_append] at la lb
 have nn: ∀{as:Tx} {x:Char},[]≠as++[x]:=fun {as x} q=>by have:=congrArg List.length q;rw[List.length_append] at this;exact absurd this (Nat.succ_ne_zero _).symm
 walk_at "D"
 rcases List.eq_nil_or_concat a1 with rfl | ⟨a1,x,rfl⟩
 ·exact kf _ (h s _ _ ea eb fun _ _ _ _ q=>(nn q).elim)
 ·rw[List.concat_eq_append] at *
  rcases List.eq_nil_or_concat b1 with rfl | ⟨b1,y,rfl⟩
  ·rw[decide_eq_false (Ne.symm nn)]
   exact kf _ (h s _ _ ea eb fun _ _ _ _ _ q=>(nn q).elim)
  ·rw[List.concat_eq_append] at *
   rw[decide_eq_false (Ne.symm nn),decide_eq_false (Ne.symm nn)]
   refine⟨tm,x,zie,tm,y,zie,?_⟩
   by_cases q:x=y
   ·subst q
    rw[decide_eq_true rfl]
    refine kt _ ?_
    unfold zdl
    refine ssn ?_
    walk_at "D"
    have e1: ∀u:Tx,zcq (u++[x]) none (some (-1))=u:=fun u=>(zev (x:=u++[x]) (k:=1) (Nat.succ_pos _) (by rw[List.length_append];exact Nat.succ_le_succ (Nat.zero_le _))).trans (List.take_left' (by rw[List.length_append];rfl))
    rw[e1,e1]
    refine⟨by unfold sma;exact zf 10187851621822720069259688507605544 rfl ha la,by unfold sma;exact zf 10187851621822720069259688507605544 rfl hb lb,rfl,k1 a1.length _ (by rw[List.length_append];exact Nat.lt_succ_self _) ⟨x::s,a1,b1,rfl,rfl,by rw[ea,List.append_assoc];rfl,by rw[eb,List.append_assoc];rfl⟩⟩
   ·rw[decide_eq_false (show ¬[x]=[y] from fun z=>q (List.head_eq_of_cons_eq z))]
    exact kf _ (h s _ _ ea eb fun _ _ _ _ q1 q2=>by
     obtain⟨_,r1⟩:=List.append_inj' q1 rfl
     obtain⟨_,r2⟩:=List.append_inj' q2 rfl
     cases r1;cases r2;exact q)
end
theorem or3 {p q r:Prop} [Decidable p] [Decidable q] [Decidable r] {K:Bool→Prop} (h1:p∨q∨r→K true) (h2: ¬(p∨q∨r)→K false):if decide p=false then(if decide q=false then(if decide r=false then K false else K true) else K true) else K true:=by
 by_cases hp:p
 ·rw[decide_eq_true hp];exact h1 (.inl hp)
 ·rw[decide_eq_false hp]
  by_cases hq:q
  ·rw[decide_eq_true hq];exact h1 (.inr (.inl hq))
  ·rw[decide_eq_false hq]
   by_cases hr:r
   ·rw[decide_eq_true hr];exact h1 (.inr (.inr hr))
   ·rw[decide_eq_false hr];exact h2 fun x=>x.elim hp fun x=>x.elim hq hr
noncomputable def zxf (P:PC):Prop:= ∀(a b:Tx) (m:Mem) (Q:V→Mem→Prop),a.length≤1000→b.length≤1000→(∀m' R,Gr m m'→zc2 a b R→Q (.tup [.int (R:Nat),.int (lcq a b:Nat)]) m')→P.call "_law_tables" [.str a,.str b] Q m
noncomputable def z8c (P:PC) (z:Tz) (t:Addr) (k:Nat):Prop:= ∀(a b:Tx) (m:Mem) (Q:V→Mem→Prop),a.length+b.length<k→TZ P z m t→(∀m' n f w,Gr m m'→FloR a b n f w→Q (.tup [.int (n:Nat),.bool f,.int (w:Nat)]) m')→P.call "_law_floor" [.obj t,.str a,.str b] Q m
theorem z33 {a b:Tx}{r:Option HM}{h:HM} (h1:HT 1 a b r) (h2:HT 1 a b (some h)):r=some h:=(show r=_ from h1).trans (show some h=_ from h2).symm
section
variable {P:PC}{Q:V→Mem→Prop}{m:Mem}{t:Addr}{a b:Tx}{z:Tz}
theorem z1l {k:Nat} (hI:zxf P) (hH:zq0 P z (HT 1) t) (hF:z8c P z t k) (hT:TZ P z m t) (hn:a.length+b.length≤k) (hk:k≤40)
  (h: ∀m' n f w,Gr m m'→FloR a b n f w→Q (.tup [.int (n:Nat),.bool f,.int (w:Nat)]) m'):
  zs P zbs (fun fl σ'=>Q (retV fl) σ'.mem) ⟨[V.obj t,.str a,.str b].map some++List.replicate 12 none,m⟩:=by
 show zs P _ _ ⟨[some (.obj t),some (.str a),some (.str b),none,none,none,none,none,none,none,none,none,none,none,none],m⟩
 unfold zbs
 refine za fun Q1 n1 r1=>?_
 walk_at "D"
 refine n1 _ (za fun Q2 n2 r2=>?_)
 refine z7p (by exact zf 4927582296005035011533706280 rfl hn hk) (by exact zf 4927587018371517881178919976 rfl hn hk) fun p a1 b1 ea eb hd=>n2 _ (za fun Q3 n3 r3=>?_)
 have la:=congrArg List.length ea
 have lb:=congrArg List.length eb
 simp only[List.length_append] at la lb
 refine z8t (by exact za9 42327771875349720372116653479375148072 rfl hn hk la) (by exact za9 42327771875968690391759343616824710184 rfl hn hk lb) fun s a' b' ea' eb' tl=>n3 _ ?_
 have la':=congrArg List.length ea'
 have lb':=congrArg List.length eb'
 simp only[List.length_append] at la' lb'
 have S:Strip a b p s a' b':=⟨by rw[ea,ea',List.append_assoc],by rw[eb,eb',List.append_assoc],by rw[ea,eb,zsp,z27 hd,Nat.add_zero],
  fun x y as bs e1 e2=>hd x y (as++s) (bs++s) (by rw[ea',e1];rfl) (by rw[eb',e2];rfl),tl⟩
 have hl:a'.length+b'.length≤40:=z5a 75929392716773882736390582991371268004523557289774971767250092934304808 rfl hn hk la lb la' lb'
 have hp:p.length+s.length+p.length+s.length+a'.length+b'.length≤k:=z5a 15101619001532035203838873806617781762371664355728108469815965510974051368 rfl hn la lb la' lb'
 clear n1 n2 n3 r1 r2 hd tl ea eb ea' eb' la lb la' lb'
 refine za fun Q4 n4 r4=>?_
 walk_at "D"
 refine hI a' b' m _ (by exact zc 587413584709763470376 rfl hl) (by exact zc 587414147659716891688 rfl hl) fun m1 R g1 hR=>⟨rfl,n4 _ (za fun Q5 n5 r5=>?_)⟩
 have sa:sma a'.length:=by unfold sma;exact zc 4744088100555303089083432 rfl hl
 have sb:sma b'.length:=by unfold sma;exact zc 4744088101118253042504744 rfl hl
 walk_at "D"
 refine⟨sa,sb,sa,sb,rfl,n5 _ (za fun Q6 n6 r6=>zi fun K kt kf=>?_)⟩
 rw[zs8,z3p]
 walk_at "D"
 refine or3 (K:=fun b=>K b _) (fun c=>kt _ (ssn ?_)) (fun c=>kf _ (zd (n6 _ (za fun Q7 n7 r7=>zi fun K kt kf=>?_))))
 ·walk_at "D"
  have:=h m1 (p.length+s.length+lcq a' b') true 0 g1 (.tab S hR (by omega))
  exact r6 _ _ this
 replace c: ¬(R<2∨max a'.length b'.length<4∨R=min a'.length b'.length):=by omega
 walk_at "D"
 refine⟨by walk_at "t",?_⟩
 by_cases q:2 * R<max a'.length b'.length
 ·rw[decide_eq_true (show(2:Int) * (R:Int)<((max a'.length b'.length:Nat):Int) by exact zc 5693616507964172329 rfl q)]
  refine kt _ (ssn ?_)
  walk_at "D"
  have:=h m1 (p.length+s.length+(lcq a' b'+1)/2) false 0 g1 (.half S)
  exact⟨by decide,by walk_at "t",r7 _ _ this⟩
 ·rw[decide_eq_false (show ¬(2:Int) * (R:Int)<((max a'.length b'.length:Nat):Int) by exact Int.not_lt.mpr (zc 5703817226018357804 rfl q))]
  obtain⟨hm,hh⟩:=zot hR (by omega) (by exact zc 82472778138386988 rfl q)
  have ok:=(zil hh).1
  have l1:=congrArg List.length ok.ea
  have l2:=congrArg List.length ok.eb
  have l3:=List.length_pos_iff.mpr ok.c0
  simp only[List.length_append] at l1 l2
  refine kf _ (zd (n7 _ (za fun Q8 n8 r8=>?_)))
  walk_at "D"
  have hT1:=hT.gr g1
  refine⟨zbe hT1 rfl,hH a' b' m1 _ (by exact zc 6567690120018214261800 rfl hl) (fun e=>by subst e;rw[List.length_nil] at l1;exact zf 76598929608736809 rfl l3 l1) (fun e=>by subst e;rw[List.length_nil] at l2;exact zf 76598929608736809 rfl l3 l2) hT1 fun m2 r g2 hr _=>?_⟩
  obtain rfl:=z33 hr hh
  refine⟨rfl,n8 _ (za fun Q9 n9 r9=>?_)⟩
  walk_at "D"
  have hT2:=hT1.gr g2
  refine hF _ _ m2 _ (by exact zn7 55763997847330813988442283278466816243755295118030341843880717657128 rfl hp l3 l1 l2) hT2 fun m3 k1 f1 w1 g3 F1=>?_
  refine⟨by walk_at "t",_,rfl,n9 _ (za fun Q10 n10 r10=>?_)⟩
  walk_at "D"
  refine hF _ _ m3 _ (by exact zn7 55770631287577515100299720497984000562978506771988677212704841737256 rfl hp l3 l1 l2) (hT2.gr g3) fun m4 k2 f2 w2 g4 F2=>?_
  refine⟨by walk_at "t",_,rfl,n10 _ (ssn ?_)⟩
  walk_at "D"
  have sc:sma hm.c.length:=by unfold sma;exact za9 41729440252889458465577094376755565608 rfl hl l2
  have:=h m4 (p.length+s.length+hm.c.length+k1+k2) false hm.c.length (((g1.trans g2).trans g3).trans g4) (.deep S hR c hh F1 F2)
  exact⟨sc,sc,this⟩
end
noncomputable def z2e:List Str:=["script"]
noncomputable def zvv:List Str:=["first","second","number","sign","deal","tool","parts","place","kind","text","old_kind","old","floor","same","whole","kept","slow"]
noncomputable def zr4:List (Str×NameKind):=[("diff_match_patch",.globalImplicit),("range",.globalImplicit),("len",.globalImplicit),("_law_floor",.globalImplicit),("sum",.globalImplicit),("max",.globalImplicit)]
noncomputable def zrn:List Str:=[]
noncomputable def zn1:List Sm:=[
  .assign [.var 4] (.idx (.lit (.str ['a','b','c'])) (.bin .Mod (.var 3) (.lit (.int 3)))),
  .assign [.var 5] (.bin .Mod (.var 3) (.lit (.int 8))),
  .ife (.cmp (.var 5) [.NotEq] [.lit (.int 6)]) [
   .assign [.var 1] (.bin .Add (.var 1) (.var 4))] [],
  .ife (.cmp (.var 5) [.Eq] [.lit (.int 7)]) [
   .assign [.var 2] (.bin .Add (.var 2) (.idx (.lit (.str ['b','c','a'])) (.bin .Mod (.var 3) (.lit (.int 3)))))] [
   .ife (.cmp (.var 5) [.NotEq] [.lit (.int 5)]) [
    .assign [.var 2] (.bin .Add (.var 2) (.var 4))] []]]
noncomputable def zs9:List Sm:=[
  .assign [.tup [11,12]] (.idx (.var 7) (.bin .Sub (.var 8) (.lit (.int 1)))),
  .ife (.bor [.cmp (.var 11) [.NotEq] [.neg (.lit (.int 1))],.cmp (.var 9) [.NotEq] [.lit (.int 1)],.cmp (.idx (.var 12) (.lit (.int 0))) [.Eq] [.idx (.var 10) (.lit (.int 0))],.cmp (.idx (.var 12) (.neg (.lit (.int 1)))) [.Eq] [.idx (.var 10) (.neg (.lit (.int 1)))]]) [
   .ret (.lit (.bool false))] []]
noncomputable def zol:List Sm:=[
  .assign [.tup [9,10]] (.idx (.var 7) (.var 8)),
  .ife (.cmp (.var 10) [.Eq] [.lit (.str [])]) [
   .ret (.lit (.bool false))] [],
  .ife (.band [.cmp (.var 8) [.Gt] [.lit (.int 0)],.cmp (.var 9) [.NotEq] [.lit (.int 0)],.cmp (.idx (.idx (.var 7) (.bin .Sub (.var 8) (.lit (.int 1)))) (.lit (.int 0))) [.NotEq] [.lit (.int 0)]]) zs9 [],
  .ife (.band [.cmp (.lit (.int 0)) [.Lt,.Lt] [.var 8,.bin .Sub (.bi .len [.var 7]) (.lit (.int 1))],.cmp (.idx (.idx (.var 7) (.bin .Sub (.var 8) (.lit (.int 1)))) (.lit (.int 0))) [.Eq] [.lit (.int 0)],.cmp (.idx (.idx (.var 7) (.bin .Add (.var 8) (.lit (.int 1)))) (.lit (.int 0))) [.Eq] [.lit (.int 0)]]) [
   .ife (.bor [.me (.var 10) .endswith [.idx (.idx (.var 7) (.bin .Sub (.var 8) (.lit (.int 1)))) (.lit (.int 1))],.me (.var 10) .startswith [.idx (.idx (.var 7) (.bin .Add (.var 8) (.lit (.int 1)))) (.lit (.int 1))]]) [
    .ret (.lit (.bool false))] []] []]
noncomputable def zb3:List Sm:=[
  .assign [.tup [1,2]] (.tup [.lit (.str []),.lit (.str [])]),
  .fr (.var 3) (.slc (.var 0) (.lit .none) (.lit (.int 9)) (.lit .none)) zn1,
  .assign [.var 6] (.call "diff_match_patch" []),
  .assign [.attr (.var 6) "Diff_Timeout"] (.lit (.int 1)),
  .assign [.var 7] (.imeth (.var 6) "diff_main" [.var 1,.var 2,.lit (.bool false)]),
  .ife (.bor [.cmp (.me (.lit (.str [])) .join [.comp (.var 1) false [0,1] (.var 7) [.cmp (.var 0) [.NotEq] [.lit (.int 1)]] 2 []]) [.NotEq] [.var 1],.cmp (.imeth (.var 6) "diff_text1" [.var 7]) [.NotEq] [.var 1]]) [
   .ret (.lit (.bool false))] [],
  .ife (.bor [.cmp (.me (.lit (.str [])) .join [.comp (.var 1) false [0,1] (.var 7) [.cmp (.var 0) [.NotEq] [.neg (.lit (.int 1))]] 2 []]) [.NotEq] [.var 2],.cmp (.imeth (.var 6) "diff_text2" [.var 7]) [.NotEq] [.var 2]]) [
   .ret (.lit (.bool false))] [],
  .fr (.var 8) (.bi .range [.bi .len [.var 7]]) zol,
  .assign [.tup [13,14,15]] (.call "_law_floor" [.var 6,.var 1,.var 2]),
  .assign [.var 16] (.comp (.bi .len [.var 1]) false [0,1] (.var 7) [.cmp (.var 0) [.Eq] [.lit (.int 0)]] 2 []),
  .ife (.bor [.cmp (.bi .sum [.var 16]) [.Lt] [.var 13],.cmp (.bi .max [.bin .Add (.var 16) (.list [.lit (.int 0)])]) [.Lt] [.var 15]]) [
   .ret (.lit (.bool false))] [],
  .assign [.var 17] (.call "diff_match_patch" []),
  .assign [.attr (.var 17) "Diff_Timeout"] (.lit (.int 0)),
  .ret (.bor [.not (.var 14),.cmp (.imeth (.var 17) "diff_main" [.var 1,.var 2,.lit (.bool false)]) [.Eq] [.var 7]])]
inductive LawC2 (cls:Addr) (z:Tz) (Q:V→Mem→Prop) (m:Mem):String→List V→Prop
 | floor (t:Addr) (a b:Tx):TZ (za2 cls) z m t→a.length+b.length≤18→(∀m' n f w,Gr m m'→FloR a b n f w→Q (.tup [.int (n:Nat),.bool f,.int (w:Nat)]) m')→LawC2 cls z Q m "_law_floor" [.obj t,.str a,.str b]
 | tool:(∀t dd m',Gr m m'→m t=none→m dd=none→t≠dd→m' t=some (.inst cls dd)→m' dd=some (.dict zbd)→Q (.obj t) m')→LawC2 cls z Q m "diff_match_patch" []
noncomputable abbrev tz2 (P:Addr) (pos:Pos) (q:Str) (i:Int):Tz:=⟨i,some (P,pos,q)⟩
noncomputable def zxe (cls P:Addr) (pos:Pos) (q:Str):PC:={za2 cls with
 call:=fun f vs Q m=>LawC2 cls (tz2 P pos q 1) Q m f vs
 meth:=fun f vs Q m=>zo5 cls (HT 1) (tz2 P pos q 1) f vs Q m∨zo5 cls (HT 0) (tz2 P pos q 0) f vs Q m}
theorem z5u {R:zG→zG→Prop}{r:Row} (h:adj R r) {i:Nat} (hi:i+1<r.length):R r[i] r[i+1]:=by
 induction r generalizing i with
 | nil=>cases hi
 | cons p r ih=>
  cases i with
  | succ i=>exact ih (zyu h) (Nat.lt_of_succ_lt_succ hi)
  | zero=>
   cases r with
   | nil=>exact absurd hi (show ¬1<1 by decide)
   | cons q r=>exact h.1
theorem z0w {r:Row} (h:zob r) {i:Nat} (hi:i+2<r.length): ¬sc r[i] r[i+1] r[i+2]:=by
 induction r generalizing i with
 | nil=>cases hi
 | cons a r ih=>
  cases i with
  | succ i=>exact ih (zwl h) (Nat.lt_of_succ_lt_succ hi)
  | zero=>
   cases r with
   | nil=>exact absurd hi (show ¬2<1 by decide)
   | cons b r=>cases r with
    | nil=>exact absurd hi (show ¬2<2 by decide)
    | cons c C=>exact h.1
section
variable {cls P:Addr}{pos:Pos}{q:Str}{m:Mem}{Q:Fl→St→Prop}{d:Addr}{r:Row}
theorem zq3 (x:Tx) (hx:x.length=3) (n:Int):tiny (n%3)∧∃c,zH x (n%3)=some c:=by
 obtain⟨j,hj,e⟩: ∃j:Nat,j<3∧n%3=j:=⟨(n%3).toNat,by omega,by omega⟩
 rw[e]
 exact⟨by unfold tiny;omega,x[j],by rw[yA _ _ (by omega),List.getElem?_eq_getElem (by omega)]⟩
noncomputable abbrev s2S (sc:Addr) (a b:Tx) (x3 x4 x5:Option V) (m:Mem):St:=⟨[some (.obj sc),some (.str a),some (.str b),x3,x4,x5,none,none,none,none,none,none,none,none,none,none,none,none],m⟩
theorem z07 {sc:Addr}{a b:Tx}{n:Int}{x4 x5:Option V} (la:a.length≤9) (lb:b.length≤9) (h: ∀a' b' x4 x5,a'.length≤a.length+1→b'.length≤b.length+1→Q .next (s2S sc a' b' (some (.int n)) x4 x5 m)):
  zs (zxe cls P pos q) zn1 Q (s2S sc a b (some (.int n)) x4 x5 m):=by
 obtain⟨t1,c,e1⟩:=zq3 ['a','b','c'] rfl n
 obtain⟨_,c',e2⟩:=zq3 ['b','c','a'] rfl n
 have sa:sma a.length:=by unfold sma;exact zw 4632898535698505138728 rfl la
 have sb:sma b.length:=by unfold sma;exact zw 4632898535698505138728 rfl lb
 have s1:sma 1:=by unfold sma;exact zsk 34517783941176 rfl
 unfold zn1
 refine za fun Q1 n1 r1=>?_
 walk_at "D"
 refine⟨by decide,t1,c,e1,n1 _ (za fun Q2 n2 r2=>?_)⟩
 walk_at "D"
 refine⟨by decide,n2 _ (za fun Q3 n3 r3=>zi fun K kt kf=>?_)⟩
 have rest: ∀a':Tx,a'.length≤a.length+1→Q3 .next (s2S sc a' b (some (.int n)) (some (.str [c])) (some (.int (n%8))) m):=fun a' la'=>by
  refine n3 _ (ssn (zi fun K kt kf=>?_))
  walk_at "D"
  by_cases q7:n%8=7
  ·rw[decide_eq_true q7]
   refine kt _ (ssn ?_)
   walk_at "D"
   exact⟨by decide,t1,c',e2,sb,s1,h a' _ _ _ la' (by rw[List.length_append];exact Nat.le_refl _)⟩
  ·rw[decide_eq_false q7]
   refine kf _ (ssn (zi fun K kt kf=>?_))
   walk_at "D"
   by_cases q5:n%8=5
   ·rw[decide_eq_true q5]
    exact kf _ (zd (h a' b _ _ la' (Nat.le_succ _)))
   ·rw[decide_eq_false q5]
    refine kt _ (ssn ?_)
    walk_at "D"
    exact⟨sb,s1,h a' _ _ _ la' (by rw[List.length_append];exact Nat.le_refl _)⟩
 walk_at "D"
 by_cases q6:n%8=6
 ·rw[decide_eq_true q6]
  exact kf _ (zd (rest a (Nat.le_succ _)))
 ·rw[decide_eq_false q6]
  refine kt _ (ssn ?_)
  walk_at "D"
  exact⟨sa,s1,rest _ (by rw[List.length_append];exact Nat.le_refl _)⟩
noncomputable def pkT (k:Int) (p:zG):Option V:=if p.1=k then none else some (.str p.2)
theorem ztl (k:Int) (r:Row):r.filterMap (pkT k)=(ze3 k r).map V.str:=by
 induction r with
 | nil=>rfl
 | cons p r ih=>
  rw[zj1]
  by_cases q:p.1=k
  ·rw[List.filterMap_cons_none (show pkT k p=none from if_pos q),if_pos q,ih]
  ·rw[List.filterMap_cons_some (show pkT k p=_ from if_neg q),if_neg q,ih];rfl
theorem zwg {k:Int}{e:Ex}{L:List (Option V)}{K:V→St→Prop} (hk:k=-1∨k=1) (he: ∀(K:V→St→Prop) (σ:St),wpE (zxe cls P pos q) e K σ=K (.int k) σ) (hm:m d=some (.list (rv r))) (hK:zk r) (hφ:phi r≤1000) (hL:L[7]? =some (some (.obj d)))
  (h: ∀m',Gr m m'→K (.str (z4 (-k) r)) ⟨L,m'⟩):
  wpE (zxe cls P pos q) (.me (.lit (.str [])) .join [.comp (.var 1) false [0,1] (.var 7) [.cmp (.var 0) [.NotEq] [e]] 2 []]) K ⟨L,m⟩:=by
 have hl:=llp r
 obtain⟨p1,p2,p3⟩:=zgw hk hK
 dsimp only[r_me,r_lit,r_es1,r_es0,r_comp,ok_join]
 rw[r_var]
 show _∧match L[7]? with | some (some v)=>_ | _=>False
 rw[hL]
 refine⟨trivial,zuf hm (by exact zc 1231896754496193008760783400 rfl hφ hl) ⟨by rw[z6];unfold sma;exact zc 9949073849436249927004832399912 rfl hφ hl,?_⟩⟩
 refine zes (fun σ=> ∃x y,σ=⟨[x,y],m⟩) pv (pkT k) r [] _ ⟨none,none,rfl⟩ (by rintro _ ⟨x,y,rfl⟩;exact hm) ?_ ?_
 ·rintro ⟨j,u⟩ _ _ ⟨x,y,rfl⟩ K K' h1 h2
  have g1:j=k→∀σ',(∃x y,σ'=⟨[x,y],m⟩)→K' σ':=fun q=>h1 (if_pos q)
  have g2: ¬j=k→∀σ',(∃x y,σ'=⟨[x,y],m⟩)→K (.str u) σ':=fun q=>h2 _ (if_neg q)
  refine⟨rfl,?_⟩
  walk_at "D"
  rw[he]
  walk_at "D"
  by_cases q:j=k
  ·rw[decide_eq_true q];exact g1 q _ ⟨_,_,rfl⟩
  ·rw[decide_eq_false q];exact g2 q _ ⟨_,_,rfl⟩
 ·rintro _ ⟨x,y,rfl⟩ a ha
  walk_at "D"
  refine⟨rfl,ze3 k r,?_,by exact zf 42082521515510742753343346491686650408 rfl hφ hl p2,by exact zc 5016627491188892143103441371688 rfl hφ p3,?_⟩
  ·rw[ups];exact congrArg (fun l=>some (O.list l)) (ztl k r)
  ·rw[p1];exact h _ (.new ha _)
noncomputable def zdr:Row→List Int
 | []=>[]
 | p::r=>if p.1=0 then(p.2.length:Int)::zdr r else zdr r
theorem ze0 (p:zG) (r:Row):zdr (p::r)=if p.1=0 then(p.2.length:Int)::zdr r else zdr r:=rfl
theorem zl2: ∀r:Row,(zdr r).sum=(zbj r:Nat)
 | []=>rfl
 | p::r=>by
  have ih:=zl2 r
  rw[ze0]
  show _=(((if p.1=0 then p.2.length else 0)+zbj r:Nat):Int)
  by_cases e:p.1=0
  ·rw[if_pos e,if_pos e,List.sum_cons,ih];rfl
  ·rw[if_neg e,if_neg e,ih,Nat.zero_add]
theorem zl1 {n:Nat}: ∀{r:Row},Lk n r→∃k:Int,k∈zdr r∧(n:Int)≤k
 | [],h=>nomatch h.choose_spec.1
 | p::r,h=>by
  rw[ze0]
  rcases h.cons with ⟨e,l⟩ | h
  ·rw[if_pos e];exact⟨_,List.mem_cons_self,Int.ofNat_le.mpr l⟩
  ·obtain⟨k,hk,l⟩:=zl1 h
   refine⟨k,?_,l⟩
   split
   ·exact List.mem_cons_of_mem _ hk
   ·exact hk
noncomputable def kpT (p:zG):Option V:=if p.1=0 then some (.int p.2.length) else none
theorem zv1 (r:Row):r.filterMap kpT=(zdr r).map V.int:=by
 induction r with
 | nil=>rfl
 | cons p r ih=>
  rw[ze0]
  by_cases q:p.1=0
  ·rw[List.filterMap_cons_some (show kpT p=_ from if_pos q),if_pos q,ih];rfl
  ·rw[List.filterMap_cons_none (show kpT p=none from if_neg q),if_neg q,ih]
theorem z1c {L:List (Option V)}{K:V→St→Prop} (hm:m d=some (.list (rv r))) (hφ:phi r≤1000) (hL:L[7]? =some (some (.obj d))) (h: ∀c,m c=none→K (.obj c) ⟨L,upd m c (.list ((zdr r).map V.int))⟩):
  wpE (zxe cls P pos q) (.comp (.bi .len [.var 1]) false [0,1] (.var 7) [.cmp (.var 0) [.Eq] [.lit (.int 0)]] 2 []) K ⟨L,m⟩:=by
 have hl:=llp r
 rw[r_comp,r_var]
 show match L[7]? with | some (some v)=>_ | _=>False
 rw[hL]
 refine zuf hm (by exact zc 1231896754496193008760783400 rfl hφ hl) ⟨by rw[z6];unfold sma;exact zc 9949073849436249927004832399912 rfl hφ hl,?_⟩
 refine zes (fun σ=> ∃x y,σ=⟨[x,y],m⟩) pv kpT r [] _ ⟨none,none,rfl⟩ (by rintro _ ⟨x,y,rfl⟩;exact hm) ?_ ?_
 ·rintro ⟨j,u⟩ hp _ ⟨x,y,rfl⟩ K K' h1 h2
  have g1: ¬j=0→∀σ',(∃x y,σ'=⟨[x,y],m⟩)→K' σ':=fun q=>h1 (if_neg q)
  have g2:j=0→∀σ',(∃x y,σ'=⟨[x,y],m⟩)→K (.int u.length) σ':=fun q=>h2 _ (if_pos q)
  have hu:u.length<phi r:=zkl hp
  refine⟨rfl,?_⟩
  walk_at "D"
  by_cases q:j=0
  ·rw[decide_eq_true q];exact⟨by unfold sma;exact zc 9949073849436249927039192138280 rfl hφ hu,g2 q _ ⟨_,_,rfl⟩⟩
  ·rw[decide_eq_false q];exact g1 q _ ⟨_,_,rfl⟩
 ·rintro _ ⟨x,y,rfl⟩ a ha
  rw[List.nil_append,zv1]
  exact h a ha
end
section
variable {cls P:Addr}{pos:Pos}{q:Str}{m:Mem}{Q:Fl→St→Prop}{d sp tl:Addr}{r:Row}{a b:Tx}{x3 x4 x5 x8 x9 x10 x11 x12:Option V}
noncomputable abbrev l2S (sp:Addr) (a b:Tx) (x3 x4 x5:Option V) (tl d:Addr) (x8 x9 x10 x11 x12:Option V) (m:Mem):St:=⟨[some (.obj sp),some (.str a),some (.str b),x3,x4,x5,some (.obj tl),some (.obj d),x8,x9,x10,x11,x12,none,none,none,none,none],m⟩
theorem ztk {x y:Tx} (h:x≠[]) (h':y≠[]) (g:Good2 x y): ∃c e c' e',zH x 0=some c∧zH y 0=some e∧c≠e∧zH x (-1)=some c'∧zH y (-1)=some e'∧c'≠e':=by
 rcases List.eq_nil_or_concat x with rfl | ⟨u,c',ex⟩
 ·exact(h rfl).elim
 rcases List.eq_nil_or_concat y with rfl | ⟨v,e',ey⟩
 ·exact(h' rfl).elim
 rw[List.concat_eq_append] at ex ey
 have gl:=g.l
 cases x with
 | nil=>exact(h rfl).elim
 | cons c x=>cases y with
  | nil=>exact(h' rfl).elim
  | cons e y=>
   refine⟨c,e,c',e',zh6,zh6,fun q=>g.h (congrArg some q),by rw[ex];exact zie,by rw[ey];exact zie,fun q=>gl ?_⟩
   rw[ex,ey,q,List.getLast?_concat,List.getLast?_concat]
theorem z3j {i:Nat} (hm:m d=some (.list (rv r))) (hi:i<r.length) (hL:r.length≤300) (hN:NE r) (hG:adj gp r) (hS:zob r)
  (h: ∀x9 x10 x11 x12,Q .next (l2S sp a b x3 x4 x5 tl d (some (.int i)) x9 x10 x11 x12 m)):
  zs (zxe cls P pos q) zol Q (l2S sp a b x3 x4 x5 tl d (some (.int i)) x9 x10 x11 x12 m):=by
 have ti:tiny (i:Int):=tiny_n (zc 621817115515983964632554996265 rfl hi hL)
 have ti':tiny ((i:Int)+1):=tiny_n (zc 636740726353535338355814474252841 rfl hi hL)
 have ti0:tiny ((i:Int)-1):=by exact⟨zw 2365632207903183342641 rfl,zc 41142283979972779259007411734952084009 rfl hi hL⟩
 have e1:zH r (i:Int)=some r[i]:=by rw[yA _ _ hi,List.getElem?_eq_getElem]
 have hne:=hN _ (List.getElem_mem hi)
 have n0: ∀j,i=j+1→∃p,zH r ((i:Int)-1)=some p∧gp p r[i]∧p.2≠[]∧(∀(hj:i+1<r.length),¬sc p r[i] r[i+1]):=fun j e=>by
  subst e
  refine⟨r[j],?_,z5u hG hi,hN _ (List.getElem_mem _),fun hj=>z0w hS hj⟩
  rw[show((j+1:Nat):Int)-1=j by exact Int.le_antisymm (zw 8280965740080 rfl) (zw 35459616480816 rfl),yA _ _ (by exact zc 5071437861753897 rfl hi),List.getElem?_eq_getElem]
 have n2: ∀(hj:i+1<r.length),zH r ((i:Int)+1)=some r[i+1]:=fun hj=>by
  rw[show(i:Int)+1=(i+1:Nat) by exact Int.le_antisymm (zw 35231113475120 rfl) (zw 35249903939120 rfl),yA _ _ hj,List.getElem?_eq_getElem]
 unfold zol
 refine za fun Q1 n1 _=>?_
 walk_at "D"
 refine zj hm ti e1 ?_
 generalize r[i]=p0 at *
 obtain⟨k,u⟩:=p0
 refine⟨rfl,n1 _ (za fun Q2 n2' _=>zi fun K kt kf=>?_)⟩
 walk_at "D"
 rw[decide_eq_false hne]
 refine kf _ (zd (n2' _ (za fun Q3 n3 _=>?_)))
 have third: ∀x11 x12,Q3 .next (l2S sp a b x3 x4 x5 tl d (some (.int i)) (some (.int k)) (some (.str u)) x11 x12 m):=fun x11 x12=>by
  refine n3 _ (ssn (zi fun K kt kf=>?_))
  dsimp only[r_lit,r_var,r_bin,r_neg,r_not,r_list,r_tup,r_cmp,r_band,r_bor,r_idx,r_slc,r_attr,r_bi,r_call,r_me,r_imeth,r_comp,r_comp2,r_ite,r_ch2,r_es0,r_es1,r_ch1,r_bo1,r_bo2,r_tnot,r_tband,r_tbor,r_tcmp,r_tvar,r_tcall,r_tme,r_tidx,r_tbi,r_ts0,r_ts1,r_tgs0,r_tgs1,r_sexpr,r_sassign,r_saug,r_sdel,r_sife,r_swhl,r_sfr,r_sret,r_ss0,r_ss1,tg_var,tg_tup,tg_idx,tg_slc,bin_add,bin_sub,bin_mul,bin_div,bin_mod,bin_cat,cmp_eqi,cmp_eqs,cmp_nei,cmp_nes,cmp_lt,cmp_le,cmp_gt,cmp_ge,cmp_isn,cmp_ist,cmp_notn,cmp_nott,tr_none,tr_bool,tr_int,tr_str,tr_tup,ix_str,ix_tup,sl_ii,sl_in,sl_ni,bi_lens,bi_lent,bi_min,bi_max,bi_rng,bi_rng2,me_find,me_find2,ok_find,me_app,ok_app,me_ins,me_pop,me_join,me_ends,me_starts,ok_ins,ok_pop,ok_join,ok_ends,ok_starts,it_str,it_rng,neg_int,aug_addi,aug_adds,aug_subi,St.set,St.setAll,List.map_cons,List.map_nil,List.replicate,List.cons_append,List.nil_append,List.getElem?_cons_succ,List.getElem?_cons_zero,List.set_cons_succ,List.set_cons_zero,List.length_cons,List.length_nil,dreduceIte,retV,zst]
  by_cases c0:0<i
  ·obtain⟨j,ej⟩: ∃j,i=j+1:=⟨i-1,by exact Nat.le_antisymm (zc 4653349194605134379 rfl (Nat.sub_add_cancel (zw 584585379881 rfl c0))) (zc 5224220029859402794 rfl (Nat.sub_add_cancel (zw 584585379881 rfl c0)))⟩
   obtain⟨⟨pk,pu⟩,ep,gpp,pne,psc⟩:=n0 j ej
   refine yV (by exact zw 8246748315689 rfl c0) ⟨_,.inl hm,by rw[z6];unfold sma;exact zw 74126376571176524710440 rfl hL,?_⟩
   rw[z6]
   by_cases c1:i+1<r.length
   ·replace psc:=psc c1
    have ex:=n2 c1
    generalize r[i+1]=nx at *
    obtain⟨nk,nu⟩:=nx
    refine yV (by exact zc 298007757334945731625 rfl c1) ?_
    refine zj hm ti0 ep (zah ?_)
    by_cases cp:pk=0
    ·refine yV cp ?_
     refine zj hm ti' ex (zah ?_)
     by_cases cn:nk=0
     ·refine yV cn (kt _ (ssn (zi fun K kt kf=>?_)))
      walk_at "D"
      refine⟨trivial,zj hm ti0 ep (zN ?_)⟩
      refine(show(if decide (pu.length≤u.length∧u.drop (u.length-pu.length)=pu)=false then _ else _) from ?_)
      rw[decide_eq_false (show ¬(pu.length≤u.length∧u.drop (u.length-pu.length)=pu) from fun z=>psc ⟨cp,cn,.inl z⟩)]
      refine⟨trivial,zj hm ti' ex (zN ?_)⟩
      refine(show(if decide (u.take nu.length=nu)=false then _ else _) from ?_)
      rw[decide_eq_false (show ¬u.take nu.length=nu from fun z=>psc ⟨cp,cn,.inr z⟩)]
      exact kf _ (zd (h _ _ _ _))
     ·exact zb6 cn (kf _ (zd (h _ _ _ _)))
    ·exact zb6 cp (kf _ (zd (h _ _ _ _)))
   ·exact zb6 (by exact Int.not_lt.mpr (zc 364611967204494803500 rfl c1)) (kf _ (zd (h _ _ _ _)))
  ·exact zb6 (by exact Int.not_lt.mpr (zw 64827163180 rfl c0)) (kf _ (zd (h _ _ _ _)))
 refine zi fun K kt kf=>?_
 walk_at "D"
 by_cases c0:0<i
 ·obtain⟨j,ej⟩: ∃j,i=j+1:=⟨i-1,by exact Nat.le_antisymm (zc 4653349194605134379 rfl (Nat.sub_add_cancel (zw 584585379881 rfl c0))) (zc 5224220029859402794 rfl (Nat.sub_add_cancel (zw 584585379881 rfl c0)))⟩
  obtain⟨⟨pk,pu⟩,ep,gpp,pne,_⟩:=n0 j ej
  refine yV (by exact zw 8246748315689 rfl c0) ?_
  by_cases ck:k=0
  ·exact zct ck (kf _ (zd (third _ _)))
  ·refine zef ck ?_
   refine zj hm ti0 ep (zah ?_)
   by_cases cp:pk=0
   ·refine zct cp (kf _ (zd (third _ _)))
   ·refine zef cp (kt _ ?_)
    obtain⟨g1,g2,g3,g4,g5⟩:=gpp cp ck
    replace g1:pk=-1:=g1;replace g2:k=1:=g2;subst g1;subst g2
    unfold zs9
    refine za fun Q4 n4 _=>?_
    walk_at "D"
    refine zj hm ti0 ep ?_
    refine⟨rfl,n4 _ (ssn (zi fun K kt kf=>?_))⟩
    walk_at "D"
    obtain⟨c,e,c',e',i1,i2,i3,i4,i5,i6⟩:=ztk g3 g4 g5
    refine⟨by walk_at "t",c,i1,by walk_at "t",e,i2,?_⟩
    rw[decide_eq_false (show ¬[c]=[e] from fun z=>i3 (List.head_eq_of_cons_eq z))]
    refine⟨by walk_at "t",c',i4,by walk_at "t",e',i5,?_⟩
    rw[decide_eq_false (show ¬[c']=[e'] from fun z=>i6 (List.head_eq_of_cons_eq z))]
    exact kf _ (zd (third _ _))
 ·exact zb6 (by exact Int.not_lt.mpr (zw 64827163180 rfl c0)) (kf _ (zd (third _ _)))
end
theorem z19 {m:Mem}{a:Addr}{Q:V→Mem→Prop}:zr3 m .sum [.obj a] Q=(∃ns:List Int,(m a=some (.list (ns.map V.int))∨∃o,m a=some (.ro o (ns.map V.int)))∧Q (.int ns.sum) m):=rfl
theorem zw4 {m:Mem}{a b:Addr}{Q:V→Mem→Prop}:zik m .Add (.obj a) (.obj b) Q=(∃xs ys,m a=some (.list xs)∧m b=some (.list ys)∧sma xs.length∧sma ys.length∧∀c,m c=none→Q (.obj c) (upd m c (.list (xs++ys)))):=rfl
theorem z2i: ∀n∈zti,¬Str.ofString "Diff_Timeout"=Str.ofString n:=by decide +kernel
theorem zm2: ∀r:Row,(zdr r).length≤r.length
 | []=>Nat.le_refl _
 | p::r=>by
  have ih:=zm2 r
  rw[ze0]
  split
  ·exact Nat.succ_le_succ ih
  ·exact Nat.le_succ_of_le ih
section
variable {cls P:Addr}{pos:Pos}{q:Str}{m:Mem}{QQ:Fl→St→Prop}{Q:V→Mem→Prop}{d sp tl t:Addr}{r:Row}{a b:Tx}{x3 x4 x5 x8 x9 x10 x11 x12:Option V}
theorem zq6 {dd:Addr}{m1:Mem}{i:Int} (h1:m1 t=some (.inst cls dd)) (h2:m1 dd=some (.dict zbd)) (hne:t≠dd) (hP:m1 P=some (.tab pos q)):TZ (za2 cls) (tz2 P pos q i) (upd m1 dd (.dict (zns "Diff_Timeout" (.int i) zbd))) t:=by
 refine⟨dd,_,by rw[upn _ _ hne];exact h1,ups _ _ _,fun n hf=>?_,?_,fun a p' q' e=>?_⟩
 ·rw[zmq,if_neg,z0x n hf]
  exact z2i n (List.contains_iff_mem.mp hf)
 ·rfl
 ·cases e
  exact(upn _ _ fun z=>by subst z;rw[hP] at h2;cases h2).trans hP
theorem z36 {L:Row} (hT:TZ (za2 cls) (tz2 P pos q 1) m tl) (hP:m P=some (.tab pos q)) (hd:m d=some (.list (rv L))) (R1:MainR (HT 1) a b L) (la:a.length≤9) (lb:b.length≤9)
  (h: ∀m' σ',Gr m m'→σ'.mem=m'→QQ (.ret (.bool true)) σ'):
  zs (zxe cls P pos q) (zb3.drop 8) QQ (l2S sp a b x3 x4 x5 tl d x8 x9 x10 x11 x12 m):=by
 have G:=zaj R1
 have hφ:=zen G.n G.k
 rw[G.m,G.p] at hφ
 have hl:=llp L
 have kl:=zm2 L
 unfold zb3
 show zs _ (_::_::_::_::_::_::[]) _ _
 refine za fun Q1 n1 _=>?_
 walk_at "D"
 refine .floor tl a b hT (by exact zc 406284171231493583855419944 rfl la lb) fun m1 n f w g1 F=>⟨rfl,n1 _ ?_⟩
 obtain⟨F1,F2,F3⟩:=flo F L R1
 refine za fun Q2 n2 _=>?_
 simp only[r_sassign]
 refine z1c (g1 _ _ hd) (by exact zf 84655381492621953365283187870478631496 rfl la lb hφ) rfl fun c hc=>?_
 replace hc:m1 c=none:=hc
 dsimp only[r_tgs1,r_tgs0,tg_var,St.set,List.set_cons_succ,List.set_cons_zero]
 have g2:=Gr.new hc (.list ((zdr L).map V.int))
 have hc2:upd m1 c (.list ((zdr L).map V.int)) c=some (.list ((zdr L).map V.int)):=ups _ _ _
 refine n2 _ ?_
 generalize upd m1 c (.list ((zdr L).map V.int))=m2 at *
 refine za fun Q3 n3 _=>zi fun K kt kf=>?_
 dsimp only[r_lit,r_var,r_bin,r_neg,r_not,r_list,r_tup,r_cmp,r_band,r_bor,r_idx,r_slc,r_attr,r_bi,r_call,r_me,r_imeth,r_comp,r_comp2,r_ite,r_ch2,r_es0,r_es1,r_ch1,r_bo1,r_bo2,r_tnot,r_tband,r_tbor,r_tcmp,r_tvar,r_tcall,r_tme,r_tidx,r_tbi,r_ts0,r_ts1,r_tgs0,r_tgs1,r_sexpr,r_sassign,r_saug,r_sdel,r_sife,r_swhl,r_sfr,r_sret,r_ss0,r_ss1,tg_var,tg_tup,tg_idx,tg_slc,bin_add,bin_sub,bin_mul,bin_div,bin_mod,bin_cat,cmp_eqi,cmp_eqs,cmp_nei,cmp_nes,cmp_lt,cmp_le,cmp_gt,cmp_ge,cmp_isn,cmp_ist,cmp_notn,cmp_nott,tr_none,tr_bool,tr_int,tr_str,tr_tup,ix_str,ix_tup,sl_ii,sl_in,sl_ni,bi_lens,bi_lent,bi_min,bi_max,bi_rng,bi_rng2,me_find,me_find2,ok_find,me_app,ok_app,me_ins,me_pop,me_join,me_ends,me_starts,ok_ins,ok_pop,ok_join,ok_ends,ok_starts,it_str,it_rng,neg_int,aug_addi,aug_adds,aug_subi,St.set,St.setAll,List.map_cons,List.map_nil,List.replicate,List.cons_append,List.nil_append,List.getElem?_cons_succ,List.getElem?_cons_zero,List.set_cons_succ,List.set_cons_zero,List.length_cons,List.length_nil,dreduceIte,retV,z19]
 refine⟨_,.inl hc2,?_⟩
 rw[zl2,decide_eq_false (show ¬((zbj L:Nat):Int)<(n:Nat) by exact Int.not_lt.mpr (zc 347510502130216 rfl F1))]
 refine(show ∀e,m2 e=none→_ from fun e he=>?_)
 have g3:=Gr.new he (.list [V.int 0])
 dsimp only[r_lit,r_var,r_bin,r_neg,r_not,r_list,r_tup,r_cmp,r_band,r_bor,r_idx,r_slc,r_attr,r_bi,r_call,r_me,r_imeth,r_comp,r_comp2,r_ite,r_ch2,r_es0,r_es1,r_ch1,r_bo1,r_bo2,r_tnot,r_tband,r_tbor,r_tcmp,r_tvar,r_tcall,r_tme,r_tidx,r_tbi,r_ts0,r_ts1,r_tgs0,r_tgs1,r_sexpr,r_sassign,r_saug,r_sdel,r_sife,r_swhl,r_sfr,r_sret,r_ss0,r_ss1,tg_var,tg_tup,tg_idx,tg_slc,bin_add,bin_sub,bin_mul,bin_div,bin_mod,bin_cat,cmp_eqi,cmp_eqs,cmp_nei,cmp_nes,cmp_lt,cmp_le,cmp_gt,cmp_ge,cmp_isn,cmp_ist,cmp_notn,cmp_nott,tr_none,tr_bool,tr_int,tr_str,tr_tup,ix_str,ix_tup,sl_ii,sl_in,sl_ni,bi_lens,bi_lent,bi_min,bi_max,bi_rng,bi_rng2,me_find,me_find2,ok_find,me_app,ok_app,me_ins,me_pop,me_join,me_ends,me_starts,ok_ins,ok_pop,ok_join,ok_ends,ok_starts,it_str,it_rng,neg_int,aug_addi,aug_adds,aug_subi,St.set,St.setAll,List.map_cons,List.map_nil,List.replicate,List.cons_append,List.nil_append,List.getElem?_cons_succ,List.getElem?_cons_zero,List.set_cons_succ,List.set_cons_zero,List.length_cons,List.length_nil,dreduceIte,retV,zw4]
 refine⟨_,_,g3 _ _ hc2,ups _ _ _,by rw[List.length_map];unfold sma;exact za9 48110769048472004412876397422512919453624225131592680008 rfl la lb hφ hl kl,(by unfold sma;exact(by decide:1≤1000000)),fun e2 he2=>?_⟩
 have g4:=Gr.new he2 (.list ((zdr L).map V.int++[V.int 0]))
 dsimp only[r_lit,r_var,r_bin,r_neg,r_not,r_list,r_tup,r_cmp,r_band,r_bor,r_idx,r_slc,r_attr,r_bi,r_call,r_me,r_imeth,r_comp,r_comp2,r_ite,r_ch2,r_es0,r_es1,r_ch1,r_bo1,r_bo2,r_tnot,r_tband,r_tbor,r_tcmp,r_tvar,r_tcall,r_tme,r_tidx,r_tbi,r_ts0,r_ts1,r_tgs0,r_tgs1,r_sexpr,r_sassign,r_saug,r_sdel,r_sife,r_swhl,r_sfr,r_sret,r_ss0,r_ss1,tg_var,tg_tup,tg_idx,tg_slc,bin_add,bin_sub,bin_mul,bin_div,bin_mod,bin_cat,cmp_eqi,cmp_eqs,cmp_nei,cmp_nes,cmp_lt,cmp_le,cmp_gt,cmp_ge,cmp_isn,cmp_ist,cmp_notn,cmp_nott,tr_none,tr_bool,tr_int,tr_str,tr_tup,ix_str,ix_tup,sl_ii,sl_in,sl_ni,bi_lens,bi_lent,bi_min,bi_max,bi_rng,bi_rng2,me_find,me_find2,ok_find,me_app,ok_app,me_ins,me_pop,me_join,me_ends,me_starts,ok_ins,ok_pop,ok_join,ok_ends,ok_starts,it_str,it_rng,neg_int,aug_addi,aug_adds,aug_subi,St.set,St.setAll,List.map_cons,List.map_nil,List.replicate,List.cons_append,List.nil_append,List.getElem?_cons_succ,List.getElem?_cons_zero,List.set_cons_succ,List.set_cons_zero,List.length_cons,List.length_nil,dreduceIte,retV,zu8]
 refine⟨zdr L++[0],(ups _ _ _).trans (congrArg (fun l=>some (O.list l)) (show(zdr L).map V.int++[V.int 0]=(zdr L++[0]).map V.int from by rw[List.map_append];rfl)),by rw[List.length_append];exact Nat.succ_pos _,fun M hM hA=>?_⟩
 have hw: ¬M<(w:Nat):=by
  rcases Nat.eq_zero_or_pos w with e | e
  ·have:=hA 0 (List.mem_append_right _ List.mem_cons_self)
   exact Int.not_lt.mpr (zbm 37437298352448340522 rfl e this)
  ·obtain⟨k,hk,l⟩:=zl1 (F3 e)
   have:=hA k (List.mem_append_left _ hk)
   exact Int.not_lt.mpr (z8e 2660681663473141685792 rfl l this)
 rw[decide_eq_false hw]
 have g:=((g1.trans g2).trans g3).trans g4
 replace hd:=g _ _ hd
 replace hP:=g _ _ hP
 refine kf _ (zd (n3 _ ?_))
 generalize upd (upd m2 e (.list [V.int 0])) e2 (.list ((zdr L).map V.int++[V.int 0]))=m3 at *
 clear g1 g2 g3 g4 he he2 hc2 hc
 refine za fun Q6 n6 _=>?_
 walk_at "D"
 refine .tool (fun t2 dd m4 g4 ht hdd hne h1 h2=>n6 _ (za fun Q7 n7 r7=>?_))
 dsimp only[r_lit,r_var,r_bin,r_neg,r_not,r_list,r_tup,r_cmp,r_band,r_bor,r_idx,r_slc,r_attr,r_bi,r_call,r_me,r_imeth,r_comp,r_comp2,r_ite,r_ch2,r_es0,r_es1,r_ch1,r_bo1,r_bo2,r_tnot,r_tband,r_tbor,r_tcmp,r_tvar,r_tcall,r_tme,r_tidx,r_tbi,r_ts0,r_ts1,r_tgs0,r_tgs1,r_sexpr,r_sassign,r_saug,r_sdel,r_sife,r_swhl,r_sfr,r_sret,r_ss0,r_ss1,tg_var,tg_tup,tg_idx,tg_slc,bin_add,bin_sub,bin_mul,bin_div,bin_mod,bin_cat,cmp_eqi,cmp_eqs,cmp_nei,cmp_nes,cmp_lt,cmp_le,cmp_gt,cmp_ge,cmp_isn,cmp_ist,cmp_notn,cmp_nott,tr_none,tr_bool,tr_int,tr_str,tr_tup,ix_str,ix_tup,sl_ii,sl_in,sl_ni,bi_lens,bi_lent,bi_min,bi_max,bi_rng,bi_rng2,me_find,me_find2,ok_find,me_app,ok_app,me_ins,me_pop,me_join,me_ends,me_starts,ok_ins,ok_pop,ok_join,ok_ends,ok_starts,it_str,it_rng,neg_int,aug_addi,aug_adds,aug_subi,St.set,St.setAll,List.map_cons,List.map_nil,List.replicate,List.cons_append,List.nil_append,List.getElem?_cons_succ,List.getElem?_cons_zero,List.set_cons_succ,List.set_cons_zero,List.length_cons,List.length_nil,dreduceIte,retV,zo2]
 refine⟨t2,dd,_,rfl,h1,h2,by trivial,rfl,n7 _ ?_⟩
 have g5:Gr m3 (upd m4 dd (.dict (zns "Diff_Timeout" (.int 0) zbd))):=g4.set hdd _
 have hT2:=zq6 (i:=0) h1 h2 hne (g4 _ _ hP)
 generalize upd m4 dd (.dict (zns "Diff_Timeout" (.int 0) zbd))=m5 at *
 refine ssn ?_
 walk_at "D"
 cases f with
 | false=>exact h _ _ (g.trans g5) rfl
 | true=>
  refine⟨zbe hT2 rfl,.inr (.main t2 a b hT2 (by exact zc 851168872849677120147292712 rfl la lb) fun m6 r' L' g6 hr hr' R0=>?_)⟩
  have e:=(zsy zpy).1 (F2 rfl) _ R0
  subst e
  dsimp only[z3o]
  refine⟨_,_,zz7 hr',zz7 (g6 _ _ (g5 _ _ hd)),?_⟩
  rw[z1t]
  exact h _ _ ((g.trans g5).trans g6) rfl
end
theorem zrw {α:Type} (xs:List α) (n:Nat):zcq xs none (some (n:Int))=xs.take n:=by
 unfold zcq zfp zh3
 simp only[Option.elim,zfs]
 rw[List.drop_zero,Nat.sub_zero,←List.take_eq_take_min]
section
variable {cls P:Addr}{pos:Pos}{q:Str}{m:Mem}{QQ:Fl→St→Prop}{Q:V→Mem→Prop}{d sp tl t:Addr}{r:Row}{a b:Tx}{x3 x4 x5 x8 x9 x10 x11 x12:Option V}{oS:Obj}{ns:List Int}
inductive Sg2 (sp:Addr) (m:Mem) (rest:List Int) (σ:St):Prop
 | mk (a b:Tx) (x3 x4 x5:Option V):σ=s2S sp a b x3 x4 x5 m→a.length+rest.length≤9→b.length+rest.length≤9→Sg2 sp m rest σ
inductive Pl2 (sp:Addr) (a b:Tx) (x3 x4 x5:Option V) (tl d:Addr) (n:Nat) (m:Mem) (rest:List Nat) (σ:St):Prop
 | mk (x8 x9 x10 x11 x12:Option V):σ=l2S sp a b x3 x4 x5 tl d x8 x9 x10 x11 x12 m→(∀i∈rest,i<n)→Pl2 sp a b x3 x4 x5 tl d n m rest σ
theorem z6e {L:Row} (hT:TZ (za2 cls) (tz2 P pos q 1) m tl) (hP:m P=some (.tab pos q)) (hd:m d=some (.list (rv L))) (R1:MainR (HT 1) a b L) (la:a.length≤9) (lb:b.length≤9)
  (h: ∀m' σ',Gr m m'→σ'.mem=m'→QQ (.ret (.bool true)) σ'):
  zs (zxe cls P pos q) (zb3.drop 5) QQ (l2S sp a b x3 x4 x5 tl d none none none none none m):=by
 have G:=zaj R1
 have gs:=z3c R1
 have hφ:=zen G.n G.k
 rw[G.m,G.p] at hφ
 have hl:=llp L
 unfold zb3
 show zs _ (_::_::_::_) _ _
 refine za fun Q1 n1 _=>zi fun K kt kf=>?_
 simp only[r_tbor,r_ts1,r_ts0,r_tcmp,r_ch1]
 refine zwg (k:=1) (.inr rfl) (fun _ _=>rfl) hd G.k (by exact zf 84655381492621953365283187870478631496 rfl la lb hφ) rfl fun m1 g1=>?_
 walk_at "D"
 rw[show z4 (-1) L=a from G.m,decide_eq_true rfl]
 have T1:=hT.gr g1
 refine⟨zbe T1 rfl,.inl (.text1 tl d L T1.tool (g1 _ _ hd) G.k (by exact zf 84655381492621953365283187870478631496 rfl la lb hφ) fun m2 g2=>?_)⟩
 walk_at "D"
 rw[G.m,decide_eq_true rfl]
 refine kf _ (zd (n1 _ ?_))
 have g12:=g1.trans g2
 refine za fun Q2 n2 _=>zi fun K kt kf=>?_
 simp only[r_tbor,r_ts1,r_ts0,r_tcmp,r_ch1]
 refine zwg (k:=-1) (.inl rfl) (fun _ _=>rfl) (g12 _ _ hd) G.k (by exact zf 84655381492621953365283187870478631496 rfl la lb hφ) rfl fun m3 g3=>?_
 walk_at "D"
 rw[show z4 (- -1) L=b from G.p,decide_eq_true rfl]
 have g13:=g12.trans g3
 have T3:=hT.gr g13
 refine⟨zbe T3 rfl,.inl (.text2 tl d L T3.tool (g13 _ _ hd) G.k (by exact zf 84655381492621953365283187870478631496 rfl la lb hφ) fun m4 g4=>?_)⟩
 walk_at "D"
 rw[G.p,decide_eq_true rfl]
 refine kf _ (zd (n2 _ ?_))
 have g:=g13.trans g4
 replace hd:=g _ _ hd
 refine za fun Q3 n3 _=>?_
 simp only[r_sfr]
 dsimp only[r_lit,r_var,r_bin,r_neg,r_not,r_list,r_tup,r_cmp,r_band,r_bor,r_idx,r_slc,r_attr,r_bi,r_call,r_me,r_imeth,r_comp,r_comp2,r_ite,r_ch2,r_es0,r_es1,r_ch1,r_bo1,r_bo2,r_tnot,r_tband,r_tbor,r_tcmp,r_tvar,r_tcall,r_tme,r_tidx,r_tbi,r_ts0,r_ts1,r_tgs0,r_tgs1,r_sexpr,r_sassign,r_saug,r_sdel,r_sife,r_swhl,r_sfr,r_sret,r_ss0,r_ss1,tg_var,tg_tup,tg_idx,tg_slc,bin_add,bin_sub,bin_mul,bin_div,bin_mod,bin_cat,cmp_eqi,cmp_eqs,cmp_nei,cmp_nes,cmp_lt,cmp_le,cmp_gt,cmp_ge,cmp_isn,cmp_ist,cmp_notn,cmp_nott,tr_none,tr_bool,tr_int,tr_str,tr_tup,ix_str,ix_tup,sl_ii,sl_in,sl_ni,bi_lens,bi_lent,bi_min,bi_max,bi_rng,bi_rng2,me_find,me_find2,ok_find,me_app,ok_app,me_ins,me_pop,me_join,me_ends,me_starts,ok_ins,ok_pop,ok_join,ok_ends,ok_starts,it_str,it_rng,neg_int,aug_addi,aug_adds,aug_subi,St.set,St.setAll,List.map_cons,List.map_nil,List.replicate,List.cons_append,List.nil_append,List.getElem?_cons_succ,List.getElem?_cons_zero,List.set_cons_succ,List.set_cons_zero,List.length_cons,List.length_nil,dreduceIte,retV,zst]
 refine⟨_,.inl hd,by rw[z6];unfold sma;exact zP 5735250597329488497876079828088405533079191945800 rfl la lb hφ hl,?_⟩
 rw[z6]
 refine⟨by exact tiny_n (zP 5735250597329488497876079828088405533079191945800 rfl la lb hφ hl),by walk_at "t",by walk_at "t",by walk_at "t",by decide,?_⟩
 rw[show zs4 0 (L.length:Int) 1=(List.range' 0 L.length).map fun j:Nat=>V.int j from zwk 0 L.length]
 refine zex (fun j:Nat=>V.int j) (Pl2 sp a b x3 x4 x5 tl d L.length m4) (fun _ _ _=>trivial) (fun i l' σ I Q5 n5 _=>?_) (fun σ I=>?_) _ _ ⟨none,none,none,none,none,rfl,fun i hi=>by have:=List.mem_range'_1.mp hi;exact zc 5071437857686057 rfl this.2⟩
 ·obtain⟨x8,x9,x10,x11,x12,rfl,hi⟩:=I
  exact z3j hd (hi i List.mem_cons_self) (by exact zP 108369819790820558632869164166672245309571656 rfl la lb hφ hl) G.n gs.1 gs.2 fun x9 x10 x11 x12=>n5 _ ⟨_,_,_,_,_,rfl,fun j hj=>hi j (List.mem_cons_of_mem _ hj)⟩
 ·obtain⟨x8,x9,x10,x11,x12,rfl,_⟩:=I
  exact n3 _ (z36 (hT.gr g) (g _ _ hP) hd R1 la lb fun m' σ' g' e=>h m' σ' (g.trans g') e)
theorem z4p (hS:m sp=some (.ro oS (ns.map V.int))) (hP:m P=some (.tab pos q)) (hn:ns.length≤63) (h: ∀m',Gr m m'→Q (.bool true) m'):
  zs (zxe cls P pos q) zb3 (fun fl σ'=>Q (retV fl) σ'.mem) ⟨[V.obj sp].map some++List.replicate 17 none,m⟩:=by
 show zs _ _ _ ⟨[some (.obj sp),none,none,none,none,none,none,none,none,none,none,none,none,none,none,none,none,none],m⟩
 have sl:sma (ns.map V.int).length:=by rw[List.length_map];unfold sma;exact zw 4632898535698558616104 rfl hn
 unfold zb3
 refine za fun Q1 n1 r1=>?_
 walk_at "D"
 refine⟨rfl,n1 _ (za fun Q2 n2 r2=>?_)⟩
 simp only[r_sfr]
 walk_at "D"
 simp only[z4k]
 refine⟨_,.inr ⟨oS,hS⟩,sl,fun a1 ha1=>?_⟩
 rw[show zcq (ns.map V.int) none (some 9)=(ns.take 9).map V.int by rw[List.map_take];exact zrw _ 9]
 have l9:(ns.take 9).length≤9:=by rw[List.length_take];exact Nat.min_le_left _ _
 have g1:=Gr.new ha1 (.list ((ns.take 9).map V.int))
 have hm1:upd m a1 (.list ((ns.take 9).map V.int)) a1=some (.list ((ns.take 9).map V.int)):=ups _ _ _
 generalize upd m a1 (.list ((ns.take 9).map V.int))=m1 at *
 generalize ns.take 9=ks at *
 refine(show ∃vs,m1 a1=some (.list vs)∧sma vs.length∧_ from⟨_,hm1,by rw[List.length_map];unfold sma;exact zw 4632898535698505138728 rfl l9,?_⟩)
 refine zex V.int (Sg2 sp m1) (fun l σ I=>?_) (fun n l' σ I Q5 n5 _=>?_) (fun σ I=>?_) ks _ ⟨[],[],none,none,none,rfl,by rw[List.length_nil];exact zw 1801510364660630056 rfl l9,by rw[List.length_nil];exact zw 1801510364660630056 rfl l9⟩
 ·obtain⟨a,b,x3,x4,x5,rfl,_⟩:=I
  exact hm1
 ·obtain⟨a,b,x3,x4,x5,rfl,la,lb⟩:=I
  rw[List.length_cons] at la lb
  exact z07 (by exact zc 1844754360012570104872 rfl la) (by exact zc 1844754360012570104872 rfl lb) fun a' b' x4 x5 la' lb'=>n5 _ ⟨a',b',_,_,_,rfl,by exact zf 16231717596260571289191367295636520 rfl la la',by exact zf 16231717596260571289191367295636520 rfl lb lb'⟩
 obtain⟨a,b,x3,x4,x5,rfl,la,lb⟩:=I
 rw[List.length_nil] at la lb
 have hP1:=g1 _ _ hP
 refine n2 _ (za fun Q6 n6 _=>?_)
 walk_at "D"
 refine .tool (fun tl dd m5 g5 ht5 hd5 hne h5 h5'=>n6 _ (za fun Q7 n7 r7=>?_))
 dsimp only[r_lit,r_var,r_bin,r_neg,r_not,r_list,r_tup,r_cmp,r_band,r_bor,r_idx,r_slc,r_attr,r_bi,r_call,r_me,r_imeth,r_comp,r_comp2,r_ite,r_ch2,r_es0,r_es1,r_ch1,r_bo1,r_bo2,r_tnot,r_tband,r_tbor,r_tcmp,r_tvar,r_tcall,r_tme,r_tidx,r_tbi,r_ts0,r_ts1,r_tgs0,r_tgs1,r_sexpr,r_sassign,r_saug,r_sdel,r_sife,r_swhl,r_sfr,r_sret,r_ss0,r_ss1,tg_var,tg_tup,tg_idx,tg_slc,bin_add,bin_sub,bin_mul,bin_div,bin_mod,bin_cat,cmp_eqi,cmp_eqs,cmp_nei,cmp_nes,cmp_lt,cmp_le,cmp_gt,cmp_ge,cmp_isn,cmp_ist,cmp_notn,cmp_nott,tr_none,tr_bool,tr_int,tr_str,tr_tup,ix_str,ix_tup,sl_ii,sl_in,sl_ni,bi_lens,bi_lent,bi_min,bi_max,bi_rng,bi_rng2,me_find,me_find2,ok_find,me_app,ok_app,me_ins,me_pop,me_join,me_ends,me_starts,ok_ins,ok_pop,ok_join,ok_ends,ok_starts,it_str,it_rng,neg_int,aug_addi,aug_adds,aug_subi,St.set,St.setAll,List.map_cons,List.map_nil,List.replicate,List.cons_append,List.nil_append,List.getElem?_cons_succ,List.getElem?_cons_zero,List.set_cons_succ,List.set_cons_zero,List.length_cons,List.length_nil,dreduceIte,retV,zo2]
 refine⟨tl,dd,_,rfl,h5,h5',by trivial,rfl,n7 _ ?_⟩
 have g6:Gr m1 (upd m5 dd (.dict (zns "Diff_Timeout" (.int 1) zbd))):=g5.set hd5 _
 have hT:=zq6 (i:=1) h5 h5' hne (g5 _ _ hP1)
 generalize upd m5 dd (.dict (zns "Diff_Timeout" (.int 1) zbd))=m6 at *
 refine za fun Q8 n8 _=>?_
 walk_at "D"
 refine⟨zbe hT rfl,.inl (.main tl a b hT (by exact zc 892515252017222386986775302116392 rfl la lb) fun m7 d L g7 hdn hd R1=>n8 _ ?_)⟩
 exact z6e (hT.gr g7) (g7 _ _ (g6 _ _ hP1)) hd R1 (by omega) (by omega) fun m' σ' g9 e=>show Q (.bool true) σ'.mem by rw[e];exact h m' (((g1.trans g6).trans g7).trans g9)
end
noncomputable def zso:List String:=["_law_tables","_law_floor","diff_match_patch"]
noncomputable def zfe:List String:=["diff_commonPrefix","diff_commonSuffix","diff_cleanupMerge","diff_main","diff_compute","diff_bisect","diff_bisectSplit","diff_halfMatch","diff_text1","diff_text2"]
noncomputable def ck2 (K:Frag) (f:Addr) (ps rest:List Str) (names:List (Str×NameKind)) (cells:List Str) (body:List Sm):Bool:=zhg K f ps rest (zd5 ps rest names zso zfe cells) body
noncomputable def lst2 (K:Frag):List Bool:=[
 z5t K zso,ztd K (ze7 K) zfe,z28 K (ze7 K),z4v K,zvy K,zso.all (fun n=>fnV K n== .ref (fnA K n)),zio K (ze7 K) zso zfe,zru K (ze7 K) zso zfe,zx8 K (ze7 K) zso zfe,
 z1q K (meA K (ze7 K) "diff_halfMatch") zso zfe 91,
 ck2 K (fnA K "_law_tables") zjw zh1 zhc zgr zba,
 ck2 K (fnA K "_law_floor") zlu zij zh2 zhz zbs,
 makesIn K (ze7 K),findIn K (.ref (ze7 K)) "__init__"==some (some (.ref (meA K (ze7 K) "__init__"))),typeIn K (.ref (meA K (ze7 K) "__init__"))==some (.type "function"),
 ck2 K (meA K (ze7 K) "__init__") zye zsd zpb zo9 zgs,
 fnV K "law"== .ref (fnA K "law"),codeHdIn K 91 87,noTabs K,ck2 K (fnA K "law") z2e zvv zr4 zrn zb3]
noncomputable def z4i (K:Frag):Bool:=(lst2 K).all id
theorem pk {l:List Bool} (h:l.all id=true) (i:Nat) {b:Bool} (e:l[i]? =some b):b=true:=List.all_eq_true.mp h b (List.mem_of_getElem? e)
inductive FloC (cls:Addr) (z:Tz) (k:Nat) (Q:V→Mem→Prop) (m:Mem):String→List V→Prop
 | tables (a b:Tx):a.length≤1000→b.length≤1000→(∀m' R,Gr m m'→zc2 a b R→Q (.tup [.int (R:Nat),.int (lcq a b:Nat)]) m')→FloC cls z k Q m "_law_tables" [.str a,.str b]
 | floor (t:Addr) (a b:Tx):a.length+b.length<k→TZ (za2 cls) z m t→(∀m' n f w,Gr m m'→FloR a b n f w→Q (.tup [.int (n:Nat),.bool f,.int (w:Nat)]) m')→FloC cls z k Q m "_law_floor" [.obj t,.str a,.str b]
noncomputable def pcF (cls:Addr) (z:Tz) (k:Nat):PC:={pcD cls (HT 1) z 0 with call:=fun f vs Q m=>FloC cls z k Q m f vs}
noncomputable abbrev z2 (K:Frag) (P:Addr) (z:Int):Tz:=tz2 P (zor K (meA K (ze7 K) "diff_halfMatch")) (hmQ K (meA K (ze7 K) "diff_halfMatch")) z
section
variable {G:GS}{A:Around}{P:Addr}
structure All2 (G:GS) (P:Addr):Prop where
 gok:G.ok
 gbi:G.bi
 hf:G.fns=zso
 hme:G.meths=zfe
 hk:z4i G.K=true
 T:BM G
 C:CodeHd G.base 91 P
theorem All2.B (a:All2 G P):Base G (za2 (ze7 G.K)):=⟨a.gok,a.gbi,z8g (pk a.hk 2 rfl),by rw[a.hf];exact pk a.hk 0 rfl,by rw[a.hme];exact pk a.hk 1 rfl⟩
theorem All2.fv (a:All2 G P): ∀n,n∈zso→fnV G.K n= .ref (fnA G.K n):=fun n hn=>beq_iff_eq.mp (List.all_eq_true.mp (pk a.hk 5 rfl) n hn)
theorem All2.hF (a:All2 G P): ∀n,n∈zso→n∈G.fns:=fun n hn=>by rw[a.hf];exact hn
theorem All2.hM (a:All2 G P): ∀n,n∈zfe→n∈G.meths:=fun n hn=>by rw[a.hme];exact hn
theorem All2.cm (a:All2 G P):zio G.K (ze7 G.K) G.fns G.meths=true:=by rw[a.hf,a.hme];exact pk a.hk 6 rfl
theorem All2.dm (a:All2 G P):zru G.K (ze7 G.K) G.fns G.meths=true:=by rw[a.hf,a.hme];exact pk a.hk 7 rfl
theorem All2.tx (a:All2 G P):zx8 G.K (ze7 G.K) G.fns G.meths=true:=by rw[a.hf,a.hme];exact pk a.hk 8 rfl
theorem All2.half (a:All2 G P) (z:Int):zl5 G (ze7 G.K) (z2 G.K P z) (HT z):=z1b a.B a.cm (by rw[a.hf,a.hme];exact pk a.hk 9 rfl) a.T a.C z
theorem zqv (a:All2 G P): ∀(k:Nat),k≤40→∀(A:Around),Lv A (k+110)→∀t x y (Q:V→Mem→Prop) m,x.length+y.length<k→TZ (za2 (ze7 G.K)) (z2 G.K P 1) m t→
  (∀m' n f w,Gr m m'→FloR x y n f w→Q (.tup [.int (n:Nat),.bool f,.int (w:Nat)]) m')→zdk G A (.ref (fnA G.K "_law_floor")) [.obj t,.str x,.str y] Q m
 | 0,_,_,_,_,_,_,_,_,h,_,_=>(Nat.not_lt_zero _ h).elim
 | k+1,hk,A,lv,t,x,y,Q,m,hl,hT,q=>by
  have lv1:Lv A (k+110+1):=lv.less (by exact zw 70541503703044738556984 rfl)
  have run: ∀env,(pcF (ze7 G.K) (z2 G.K P 1) k).run G (A.deeper env):=fun env=>by
   have lv2:Lv (A.deeper env) (k+110):=lv1.deeper env
   have lv3:Lv (A.deeper env) (100+1):=lv2.less (by exact zw 67272692321354808 rfl)
   refine zhl (a.B.swap rfl rfl rfl) (fun n hn vs Q m hc=>?_) (fun f _ vs Q m hc=>zo7 a.B a.cm a.dm (a.half 1) 0 _ (lv2.less (by exact zw 67272693166113848 rfl)) f vs Q m hc) fun _ _ _ _ h=>h.elim
   cases hc with
   | tables x y h1 h2 q=>
    rw[a.fv _ (by decide)]
    exact(zag a.gok a.gbi (pk a.hk 10 rfl) lv3.room (fun env'=>(lv3.deeper env').rm) (fun env'=>zzc a.B) a.hF a.hM rfl (zxi h1 h2 q)).toS
   | floor t x y h1 h2 q=>
    rw[a.fv _ (by decide)]
    exact zqv a k (by exact zw 6341146387912070184 rfl hk) _ lv2 t x y Q m h1 h2 q
  exact(zag (P:=pcF (ze7 G.K) (z2 G.K P 1) k) a.gok a.gbi (pk a.hk 11 rfl) lv1.room (fun env=>(lv1.deeper env).rm) run a.hF a.hM rfl
   (z1l (k:=k) (fun a b m Q h1 h2 q=> .tables a b h1 h2 q) (fun a b m Q h1 ha hb hT q=> .half h1 ha hb hT q) (fun a b m Q h1 h2 q=> .floor t a b h1 h2 q) hT (by exact zf 10076579479400347079721 rfl hl) (by exact zw 6341146387912070184 rfl hk) q)).toS
theorem run2 (a:All2 G P) (lv:Lv A 400):(zxe (ze7 G.K) P (zor G.K (meA G.K (ze7 G.K) "diff_halfMatch")) (hmQ G.K (meA G.K (ze7 G.K) "diff_halfMatch"))).run G A:=by
 have lv9:Lv A (399+1):=lv
 refine zhl (a.B.swap rfl rfl rfl) (fun n hn vs Q m hc=>?_) (fun n hn vs Q m hc=>?_) (fun _ _ _ _ h=>h.elim)
 ·replace hc:LawC2 (ze7 G.K) (z2 G.K P 1) Q m n vs:=hc
  cases hc with
  | floor t x y h1 h2 q=>
   rw[a.fv _ (by decide)]
   exact zqv a 19 (by exact zsk 738373688 rfl) A (lv.less (by exact zsk 3747167706907704 rfl)) t x y Q m (by exact zc 3173489210568399655976 rfl h2) h1 q
  | tool q=>
   rw[a.fv _ (by decide)]
   refine zrm a.gok (pk a.hk 12 rfl) (beq_iff_eq.mp (pk a.hk 13 rfl)) (beq_iff_eq.mp (pk a.hk 14 rfl)) fun x d hx hd hne=>?_
   have lv':=lv9.call (k:=399) (ze7 G.K)
   refine zag a.gok a.gbi (pk a.hk 15 rfl) lv'.room (fun env=>((lv'.less (by exact Nat.lt_succ_self _:398+1≤399)).deeper env).rm) (fun env=>zzc a.B) a.hF a.hM rfl (z5j (ze7 G.K) x d _ (ups _ _ _) (by rw[upn _ _ (Ne.symm hne),ups]) (fun r m'=>r=V.none∧Q (.obj x) m') fun m' h1 h2 h3=>⟨rfl,q x d m' (fun a o e=>?_) hx hd hne h1 h2⟩)
   have nx:a≠x:=fun z=>by subst z;rw[hx] at e;exact(Option.some_ne_none _ e.symm).elim
   have nd:a≠d:=fun z=>by subst z;rw[hd] at e;exact(Option.some_ne_none _ e.symm).elim
   exact h3 a o nd (by rw[upn _ _ nx,upn _ _ nd];exact e)
 ·rcases hc with hc | hc
  ·exact zrh a.B a.cm a.dm a.tx (a.half 1) (lv.less (by exact Nat.le_add_left ..)) n vs Q m hc
  ·exact zrh a.B a.cm a.dm a.tx (a.half 0) (lv.less (by exact Nat.le_add_left ..)) n vs Q m hc
end
theorem go2 {K:Frag}{sc P:Addr}{ns:List Int} (hn:ns.length≤63) (hk:z4i K=true)
  {ol:Obj} {m:Mem} (G:GS) (e3:G.K=K) (e4:G.fns=zso) (e5:G.meths=zfe) (gok:G.ok) (gbi:G.bi) (T:BM G) (C:CodeHd G.base 91 P) (m1:m sc=some (.ro ol (ns.map V.int))) (m2:m P=some (.tab (zor K (meA K (ze7 K) "diff_halfMatch")) (hmQ K (meA K (ze7 K) "diff_halfMatch")))):
  zjb G callerA (.ref (fnA K "law")) [.obj sc] (fun r m'=>r= .bool true∧Gr m m') m:=by
 subst e3
 have a:All2 G P:=⟨gok,gbi,e4,e5,hk,T,C⟩
 have lv:Lv callerA (499+1):=zw6
 have W:=z4p (cls:=ze7 G.K) (Q:=fun r m'=>r=V.bool true∧Gr m m') m1 m2 hn fun m' g=>⟨rfl,g⟩
 exact zag gok gbi (pk hk 19 rfl) lv.room (fun env=>(lv.deeper env).rm) (fun env=>run2 a ((lv.deeper env).less (by exact Nat.le_add_left ..))) a.hF a.hM rfl W
theorem tab2 {K:Frag}{h:Heap} (KX:K.In h) (hT8: ∀P,P∈[87]→h.get? P=some (tabObj #[])) (hK:z4i K=true):TabsAt [(91,87)] h:=
 List.forall_mem_cons.mpr ⟨⟨codeHd_of_K (c:=91) (P:=87) KX (pk hK 17 rfl),hT8 87 (List.mem_singleton.mpr rfl)⟩,fun _ h=>nomatch h⟩
theorem law2_top {prog:Program}{w:World}{p:Program}{loose:List Str}{mean:ExcName→Option Value}{mg mb:Str→Option Value}{K:Frag}{sc fa:Addr}{s:Shared}
  {vals:List Value} {ns:List Int} {R:Result→Shared→Prop}
  (hT9:TabsAt [(91,87)] s.heap) (KX:K.In s.heap) (T:Top p loose mean mg mb s.heap) (hl:s.heap.IsList sc vals.toArray) (hI:IntsAre vals ns) (hn: ¬(63:Int)<(ns.length:Int))
  (hK:z4i K=true) (hfa:mg (Str.ofString "law")=some (.ref fa))
  (hpost: ∀s':Shared,(∃h tk,s'={s with heap:=h,toks:=tk})→(∀b o,(ghostOf s.heap [(91,87)]).get? b=some o→s'.heap.get? b=some o)→(∃ps,s'.heap.get? 87=some (tabObj ps))→R (.ok (.ret (.bool true))) s'):
  codeAny (model prog w) callerA (.call (.ref fa) ⟨[.ref sc],[]⟩) R s:=by
 have ef:=z3y KX T.g hfa (beq_iff_eq.mp (pk hK 16 rfl))
 have hn':ns.length≤63:=zw 71495254502546980 rfl hn
 rw[ef]
 exact zy9 (fns:=zso) (meths:=zfe) hT9 (ghost_K hT9 KX (pk hK 18 rfl)) (ghost_top hT9 T) hl hI (pk hK 3 rfl) (pk hK 4 rfl) (fun ol G m e1 e2 e3 e4 e5 gok gbi bm C m1 m2=>go2 hn' hK G e3 e4 e5 gok gbi bm C m1 m2) hpost
end Mine.Internal
open PySem PySem.W PyProof.Rows
set_option Elab.async false
namespace Mine.Internal
noncomputable def vw:Program:=view PySem.Challenge.pw_im0119_02 [0,2,4,5,6]
noncomputable def topHook:Hook:=z5d z4i [2,3,15,17,18,20,21,29,31,32,34,35,36,37,39,40,42,43,44,46,47,49,50,51,53,54,56,57,58,60,61,63,64,65,67,68,70,71,72,74,75,77,78,79,81,82,84,85,86,88,89,91,92,93,95,96,98,99,100,102,103,105,106,107,109,110,112,113,114,116,117,119,120,121,123,124,126,127,128,130,131,133,134,135,136,137,138,139,142,144,145,147,148,149,151,152,154,155,156,159,160] [87]
set_option maxRecDepth 100000 in
theorem z7m: ∀w:World,(fencedOpening treeTable PySem.Challenge.pw_im0119_02 w 1200).map (fun s=>(s.heap,s.gens,s.drawn,s.toks))=some (boot_heap w.params,Array.mk [],boot_drawn,boot_toks):=
 boot_open rfl (by decide) (fun s=>rfl)
set_option maxRecDepth 100000 in
theorem left1:LeftO PySem.Challenge.pw_im0119_02 vw ["diff_match_patch"] (fun s=>xlAt vw [] s&&recOk [] s) topHook.obs topHook.val 1200:=by
 refine zum z7m fun w os=>?_
 kernel_rfl
end Mine.Internal
set_option maxRecDepth 100000 in
set_option maxHeartbeats 8000000 in
theorem PySem.Challenge.cw_im0119_02_holds : PySem.Challenge.rw_im0119_02.Holds := by
 w_on
 refine holds_law (by kernel_rfl) fun said=>?_
 refine holds_open (q:=Mine.Internal.vw) (XP:=XL Mine.Internal.vw []) (YP:=Mine.Internal.topHook.says) Mine.Internal.left1 Mine.Internal.topHook.of Mine.Internal.topHook.keeps (fun s e=>xl_of s (Bool.and_eq_true_iff.mp e).1) XL.keeps (by rfl) (by rfl) (by rfl) (fun s e=>recFacts_of (Bool.and_eq_true_iff.mp e).2) (by rfl) (by first | assumption | decide +kernel) (by decide +kernel) ⟨rfl,rfl,rfl,rfl,rfl,by decide +kernel⟩ ?hw ?hc
 (case hw=>w_witness2)
 intro w s₀ s₁ mg mb G Y fa o pm cd doc dV kV ho hd hcd hD hmg hg args vals as hpre hlay hrd hwl hlo
 obtain⟨⟨K,KX,hchk⟩,hT8⟩:=Y
 refine Ground.open G ?_
 intro T B D TE TW
 try (refine guard_noD D (by decide +kernel) ?_;clear D)
 wrow_args hpre hlay hrd hwl hlo
 have hT9:=Mine.Internal.tab2 KX hT8 hchk
 refine enter_call ?_
 kn_posts
 refine' Mine.Internal.law2_top hT9 KX T ?minehl ?minehI ?minehn hchk hmg ?minehpost
 (case minehl=>assumption)
 (case minehI=>assumption)
 (case minehn=>assumption)
 (case minehpost=>(intro s' hs hkeep hgr;obtain⟨h,tk,rfl⟩:=hs;refine And.intro ?minep1 (And.intro hgr trivial);(show GoodW _ _ _ _ _ (.ok (.ret (.bool true))) _);refine' And.intro (Or.inl ⟨_,_,[],rfl,raisesW_false ?minep2,.bool true,?minep3,unshared_nil⟩) ⟨hkeep,rfl,?minep4⟩;(case minep2=>wrow_none_raised);(case minep3=>first | wrow_post | kc_post);(case minep4=>assumption)))
