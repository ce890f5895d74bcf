import PyProof.Rows.All
import Open.FastLooks
import Open.Tops
import Wide.FinOn
import OpenK.AllK
import Wide.All
import Lean
import PySem.Challenge.RW_ik0202_01
set_option Elab.async false
set_option maxRecDepth 100000
set_option linter.all false
set_option genSizeOf false
set_option genInjectivity false
section
namespace Mine
section
namespace Ar
inductive E where
 |v (i:Nat)|w (i:Nat)|n (k:Nat)|a (x y:E)|s (x y:E)|g (x:E)|m (k:Nat) (x:E)|r (x:E) (k:Nat)
inductive F where
 |n (k:Nat) (x y:E)|z (k:Nat) (x y:E)
structure Po where
 c:Int
 x:List Int
 y:List Int
noncomputable section
noncomputable def gN:List Nat→Nat→Nat
 |[],_=>0
 |x::_,0=>x
 |_::r,i+1=>gN r i
noncomputable def gZ:List Int→Nat→Int
 |[],_=>0
 |x::_,0=>x
 |_::r,i+1=>gZ r i
noncomputable def E.N (p:List Nat):E→Nat
 |.v i=>gN p i
 |.n k=>k
 |.a x y=>x.N p+y.N p
 |.m k x=>k*x.N p
 |.r x k=>x.N p*k
 |_=>0
noncomputable def E.k:E→Bool
 |.v _=>true
 |.n _=>true
 |.a x y=>x.k&&y.k
 |.m _ x=>x.k
 |.r x _=>x.k
 |_=>false
noncomputable def E.Z (p:List Nat) (q:List Int):E→Int
 |.v i=>(gN p i:Int)
 |.w i=>gZ q i
 |.n k=>(k:Int)
 |.a x y=>x.Z p q+y.Z p q
 |.s x y=>x.Z p q-y.Z p q
 |.g x=>-x.Z p q
 |.m k x=>(k:Int)*x.Z p q
 |.r x k=>x.Z p q*(k:Int)
noncomputable def kN:Nat→Nat→Nat→Prop
 |0,x,y=>x≤y
 |1,x,y=>x<y
 |2,x,y=>x=y
 |3,x,y=>¬x<y
 |_,x,y=>¬x≤y
noncomputable def kZ:Nat→Int→Int→Prop
 |0,x,y=>x≤y
 |1,x,y=>x<y
 |2,x,y=>x=y
 |3,x,y=>¬x<y
 |_,x,y=>¬x≤y
noncomputable abbrev x0:E:=.v 0
noncomputable abbrev x1:E:=.v 1
noncomputable abbrev x2:E:=.v 2
noncomputable abbrev x3:E:=.v 3
noncomputable abbrev x4:E:=.v 4
noncomputable abbrev x5:E:=.v 5
noncomputable abbrev x6:E:=.v 6
noncomputable abbrev x7:E:=.v 7
noncomputable abbrev y0:E:=.w 0
noncomputable abbrev y1:E:=.w 1
noncomputable abbrev y2:E:=.w 2
noncomputable abbrev y3:E:=.w 3
noncomputable abbrev c0:E:=.n 0
noncomputable abbrev c1:E:=.n 1
noncomputable abbrev c2:E:=.n 2
noncomputable abbrev c3:E:=.n 3
noncomputable abbrev c4:E:=.n 4
noncomputable abbrev c5:E:=.n 5
noncomputable abbrev c6:E:=.n 6
noncomputable abbrev c7:E:=.n 7
noncomputable abbrev c8:E:=.n 8
noncomputable abbrev c9:E:=.n 9
noncomputable abbrev p (x y:E):E:=.a x y
noncomputable abbrev q (x y:E):E:=.s x y
noncomputable abbrev n0 (x y:E):F:=.n 0 x y
noncomputable abbrev z0 (x y:E):F:=.z 0 x y
noncomputable abbrev n1 (x y:E):F:=.n 1 x y
noncomputable abbrev z1 (x y:E):F:=.z 1 x y
noncomputable abbrev n2 (x y:E):F:=.n 2 x y
noncomputable abbrev z2 (x y:E):F:=.z 2 x y
noncomputable abbrev n3 (x y:E):F:=.n 3 x y
noncomputable abbrev z3 (x y:E):F:=.z 3 x y
noncomputable abbrev n4 (x y:E):F:=.n 4 x y
noncomputable abbrev z4 (x y:E):F:=.z 4 x y
noncomputable def F.d (p:List Nat) (q:List Int):F→Prop
 |.n k x y=>kN k (x.N p) (y.N p)
 |.z k x y=>kZ k (x.Z p q) (y.Z p q)
noncomputable def ad:List Int→List Int→List Int
 |[],y=>y
 |a::x,[]=>a::x
 |a::x,b::y=>(a+b)::ad x y
noncomputable def sc (k:Int):List Int→List Int
 |[]=>[]
 |a::x=>k*a::sc k x
noncomputable def un:Nat→List Int
 |0=>[1]
 |i+1=>0::un i
noncomputable def Po.ad (p q:Po):Po:=⟨p.c+q.c,Ar.ad p.x q.x,Ar.ad p.y q.y⟩
noncomputable def Po.sc (k:Int) (p:Po):Po:=⟨k*p.c,Ar.sc k p.x,Ar.sc k p.y⟩
noncomputable def E.p:E→Po
 |.v i=>⟨0,un i,[]⟩
 |.w i=>⟨0,[],un i⟩
 |.n k=>⟨k,[],[]⟩
 |.a x y=>x.p.ad y.p
 |.s x y=>x.p.ad (y.p.sc (-1))
 |.g x=>x.p.sc (-1)
 |.m k x=>x.p.sc k
 |.r x k=>x.p.sc k
noncomputable def di (b:Int) (x y:Po):Po:=Po.ad ⟨b,[],[]⟩ (y.ad (x.sc (-1)))
noncomputable def kp:Nat→Po→Po→Po
 |0,x,y=>di 0 x y
 |1,x,y=>di (-1) x y
 |2,x,y=>di 0 x y
 |3,x,y=>di 0 y x
 |_,x,y=>di (-1) y x
noncomputable def F.p:F→Po
 |.n k x y=>kp k x.p y.p
 |.z k x y=>kp k x.p y.p
noncomputable def F.q:F→Bool
 |.n k _ _=>Nat.beq k 2
 |.z k _ _=>Nat.beq k 2
noncomputable def F.k:F→Bool
 |.n _ x y=>x.k&&y.k
 |.z _ _ _=>true
noncomputable def nn:List Int→Bool
 |[]=>true
 |a::x=>decide (a≤0)&&nn x
noncomputable def nz:List Int→Bool
 |[]=>true
 |a::x=>decide (a=0)&&nz x
noncomputable def en (o:Po):Bool:=decide (o.c<0)&&(nn o.x&&nz o.y)
noncomputable def su:List F→List Int→Po→Bool
 |f::r,k::s,o=>f.k&&((decide (0≤k)||f.q)&&su r s (o.ad (f.p.sc k)))
 |_,_,o=>en o
noncomputable def dn (p:List Nat) (q:List Int):List F→Prop→Prop
 |[],G=>G
 |f::r,G=>f.d p q→dn p q r G
noncomputable def F.n':F→F
 |.n k x y=>.n (Nat.sub 4 k) x y
 |.z k x y=>.z (Nat.sub 4 k) x y
noncomputable def F.g':F→Bool
 |.n k _ _=>Nat.ble k 1
 |.z k _ _=>Nat.ble k 1
noncomputable def dN:List Int→List Nat→Int
 |a::x,b::y=>a*b+dN x y
 |_,_=>0
noncomputable def dZ:List Int→List Int→Int
 |a::x,b::y=>a*b+dZ x y
 |_,_=>0
noncomputable def Po.Z (p:List Nat) (q:List Int) (o:Po):Int:=o.c+(dN o.x p+dZ o.y q)
end
section
variable {p:List Nat} {q:List Int}
theorem GO:∀(x y:List Int) (p:List Nat),dN (ad x y) p=dN x p+dN y p
 |[],y,p=>(Int.zero_add _).symm
 |a::x,[],p=>(Int.add_zero _).symm
 |a::x,b::y,[]=>rfl
 |a::x,b::y,c::p=>by show (a+b)*(c:Int)+dN (ad x y) p=a*c+dN x p+(b*c+dN y p);rw [GO x y p,Int.add_mul,Int.add_assoc,Int.add_assoc,Int.add_left_comm (b*_)]
theorem GP:∀(x y:List Int) (p:List Int),dZ (ad x y) p=dZ x p+dZ y p
 |[],y,p=>(Int.zero_add _).symm
 |a::x,[],p=>(Int.add_zero _).symm
 |a::x,b::y,[]=>rfl
 |a::x,b::y,c::p=>by show (a+b)*c+dZ (ad x y) p=a*c+dZ x p+(b*c+dZ y p);rw [GP x y p,Int.add_mul,Int.add_assoc,Int.add_assoc,Int.add_left_comm (b*_)]
theorem GQ (k:Int):∀(x:List Int) (p:List Nat),dN (sc k x) p=k*dN x p
 |[],p=>(Int.mul_zero _).symm
 |a::x,[]=>(Int.mul_zero _).symm
 |a::x,c::p=>by show k*a*(c:Int)+dN (sc k x) p=k*(a*c+dN x p);rw [GQ k x p,Int.mul_add,Int.mul_assoc]
theorem GR (k:Int):∀(x:List Int) (p:List Int),dZ (sc k x) p=k*dZ x p
 |[],p=>(Int.mul_zero _).symm
 |a::x,[]=>(Int.mul_zero _).symm
 |a::x,c::p=>by show k*a*c+dZ (sc k x) p=k*(a*c+dZ x p);rw [GR k x p,Int.mul_add,Int.mul_assoc]
theorem GS:∀(i:Nat) (p:List Nat),dN (un i) p=(gN p i:Int)
 |0,[]=>rfl
 |0,a::p=>(Int.add_zero _).trans (Int.one_mul _)
 |i+1,[]=>rfl
 |i+1,a::p=>(congr (congrArg _ (Int.zero_mul _)) (GS i p)).trans (Int.zero_add _)
theorem GU:∀(i:Nat) (p:List Int),dZ (un i) p=gZ p i
 |0,[]=>rfl
 |0,a::p=>(Int.add_zero _).trans (Int.one_mul _)
 |i+1,[]=>rfl
 |i+1,a::p=>(congr (congrArg _ (Int.zero_mul _)) (GU i p)).trans (Int.zero_add _)
theorem sw (a b c d:Int):a+b+(c+d)=a+c+(b+d):=by rw [Int.add_assoc,Int.add_left_comm b,←Int.add_assoc]
theorem AX (x y:Po):(x.ad y).Z p q=x.Z p q+y.Z p q:=by show x.c+y.c+(dN (ad x.x y.x) p+dZ (ad x.y y.y) q)=x.c+_+(y.c+_);rw [GO,GP,sw (dN _ _),sw x.c]
theorem zy (k:Int) (x:Po):(x.sc k).Z p q=k*x.Z p q:=by show k*x.c+(dN (sc k x.x) p+dZ (sc k x.y) q)=k*(x.c+_);rw [GQ,GR,Int.mul_add,Int.mul_add]
theorem YZ (k:Int):Po.Z p q ⟨k,[],[]⟩=k:=Int.add_zero k
theorem Y0 (e:E):e.p.Z p q=e.Z p q:=by
 induction e with
 |v i=>exact (Int.zero_add _).trans ((Int.add_zero _).trans (GS i p))
 |w i=>exact (Int.zero_add _).trans ((Int.zero_add _).trans (GU i q))
 |n k=>exact YZ _
 |a x y h1 h2=>exact (AX _ _).trans (congr (congrArg _ h1) h2)
 |s x y h1 h2=>exact (AX _ _).trans ((congr (congrArg _ h1) ((zy _ _).trans ((Int.neg_one_mul _).trans (congrArg _ h2)))).trans Int.sub_eq_add_neg.symm)
 |g x h=>exact (zy _ _).trans ((congrArg _ h).trans (Int.neg_one_mul _))
 |m k x h=>exact (zy _ _).trans (congrArg _ h)
 |r x k h=>exact (zy _ _).trans ((congrArg _ h).trans (Int.mul_comm ..))
theorem bt {x y:Bool} (h:(x&&y)=true):x=true∧y=true:=Bool.and_eq_true_iff.mp h
theorem Y3 (e:E) (h:e.k=true):e.Z p q=(e.N p:Int):=by
 induction e with
 |v i=>rfl
 |n k=>rfl
 |a x y h1 h2=>exact (congr (congrArg _ (h1 (bt h).1)) (h2 (bt h).2)).trans (Int.natCast_add _ _).symm
 |m k x h1=>exact (congrArg _ (h1 h)).trans (Int.natCast_mul _ _).symm
 |r x k h1=>exact (congrArg (·*_) (h1 h)).trans (Int.natCast_mul _ _).symm
 |_=>cases h
theorem AY (b:Int) (x y:E):(di b x.p y.p).Z p q=b+(y.Z p q-x.Z p q):=by rw [di,AX,AX,zy,YZ,Int.neg_one_mul,Int.sub_eq_add_neg,Y0,Y0]
theorem Y4 {x y:Int} (h:x≤y):0≤0+(y-x):=by rw [Int.zero_add];exact Int.sub_nonneg_of_le h
theorem Y5 {x y:Int} (h:x<y):0≤-1+(y-x):=by rw [Int.add_comm];exact Int.sub_nonneg_of_le (Int.sub_pos_of_lt h)
theorem IB {k:Nat} {x y:E} (h:kZ k (x.Z p q) (y.Z p q)) (e:Nat.beq k 2=true):(kp k x.p y.p).Z p q=0:=by cases Nat.eq_of_beq_eq_true e;rw [kp,AY,show x.Z p q=_ from h,Int.sub_self];rfl
theorem Mq {x y:E}:∀{k:Nat} (_:kZ k (x.Z p q) (y.Z p q)),0≤(kp k x.p y.p).Z p q
 |0,h=>(AY 0 x y).symm▸Y4 h
 |1,h=>(AY (-1) x y).symm▸Y5 h
 |2,h=>Int.le_of_eq (IB h rfl).symm
 |3,h=>(AY 0 y x).symm▸Y4 (Int.not_lt.mp h)
 |_+4,h=>(AY (-1) y x).symm▸Y5 (Int.not_le.mp h)
theorem kNZ {a b:Nat}:∀{k:Nat} (_:kN k a b),kZ k (a:Int) (b:Int)
 |0,h=>Int.ofNat_le.mpr h
 |1,h=>Int.ofNat_lt.mpr h
 |2,h=>congrArg _ h
 |3,h=>fun g=>h (Int.ofNat_lt.mp g)
 |_+4,h=>fun g=>h (Int.ofNat_le.mp g)
theorem Y6 {k:Nat} {x y:E} (h:F.d p q (.n k x y)) (g:F.k (.n k x y)=true):F.d p q (.z k x y):=by show kZ k (x.Z p q) (y.Z p q);rw [Y3 x (bt g).1,Y3 y (bt g).2];exact kNZ h
theorem F_q:∀{f:F} (_:f.d p q) (_:f.k=true) (_:f.q=true),f.p.Z p q=0
 |.n _ _ _,h,g,e=>IB (Y6 h g) e
 |.z _ _ _,h,_,e=>IB h e
theorem F_p:∀{f:F} (_:f.d p q) (_:f.k=true),0≤f.p.Z p q
 |.n _ _ _,h,g=>Mq (Y6 h g)
 |.z _ _ _,h,_=>Mq h
theorem GW:∀{x:List Int} (_:nn x=true) (p:List Nat),dN x p≤0
 |[],_,_=>Int.le_refl 0
 |_::_,_,[]=>Int.le_refl 0
 |_::_,h,b::p=>Int.add_le_add (Int.mul_nonpos_of_nonpos_of_nonneg (of_decide_eq_true (bt h).1) (Int.natCast_nonneg b)) (GW (bt h).2 p)
theorem GX:∀{x:List Int} (_:nz x=true) (p:List Int),dZ x p=0
 |[],_,_=>rfl
 |_::_,_,[]=>rfl
 |a::x,h,b::p=>by show a*b+dZ x p=0;rw [GX (bt h).2,of_decide_eq_true (bt h).1,Int.zero_mul];rfl
theorem AZ {o:Po} (h:en o=true) (ho:0≤o.Z p q):False:= Int.not_lt.mpr ho (Int.add_lt_add_of_lt_of_le (of_decide_eq_true (bt h).1) (Int.add_le_add (GW (bt (bt h).2).1 p) (Int.le_of_eq (GX (bt (bt h).2).2 q))))
theorem A0:∀(fs:List F) (ks:List Int) (o:Po),su fs ks o=true→0≤o.Z p q→dn p q fs False
 |[],_,_,h,ho=>AZ h ho
 |_::_,[],_,h,ho=>absurd ho (AZ h)
 |f::r,k::s,o,h,ho=>fun hf=>A0 r s _ (bt (bt h).2).2 (by
  rw [AX,zy];refine Int.add_nonneg ho ?_;rcases Bool.or_eq_true_iff.mp (bt (bt h).2).1 with h1|h1
  ·exact Int.mul_nonneg (of_decide_eq_true h1) (F_p hf (bt h).1)
  ·rw [F_q hf (bt h).1 h1,Int.mul_zero];exact Int.le_refl 0)
theorem o0:0≤Po.Z p q ⟨0,[],[]⟩:=Int.le_refl 0
theorem qO:∀{f:F} (_:f.g'=true) (_:¬f.d p q),f.n'.d p q
 |.n 0 _ _,_,n=>n
 |.n 1 _ _,_,n=>n
 |.z 0 _ _,_,n=>n
 |.z 1 _ _,_,n=>n
theorem GY {G:Prop}:∀fs:List F,(¬G→dn p q fs False)→dn p q fs G
 |[],h=>Classical.byContradiction h
 |_::r,h=>fun hf=>GY r fun n=>h n hf
theorem vV {G H K:Prop} (k:G→H→K):∀fs:List F,dn p q fs G→dn p q fs H→dn p q fs K
 |[],h,g=>k h g
 |_::r,h,g=>fun hf=>vV k r (h hf) (g hf)
end
theorem no (p:List Nat) (q:List Int) (fs:List F) (ks:List Int) (h:su fs ks ⟨0,[],[]⟩=true):dn p q fs False:=A0 fs ks _ h o0
theorem go (p:List Nat) (q:List Int) (f:F) (fs:List F) (ks:List Int) (h:(f.g'&&su (f.n'::fs) ks ⟨0,[],[]⟩)=true):dn p q fs (f.d p q):= GY fs fun n=>A0 (f.n'::fs) ks _ (bt h).2 o0 (qO (bt h).1 n)
theorem eN (p:List Nat) (q:List Int) (x y:E) (fs:List F) (ks js:List Int) (h:(su (.n 4 x y::fs) ks ⟨0,[],[]⟩&&su (.n 4 y x::fs) js ⟨0,[],[]⟩)=true):dn p q fs (x.N p=y.N p):= vV Nat.le_antisymm fs (go p q (.n 0 x y) fs ks (bt h).1) (go p q (.n 0 y x) fs js (bt h).2)
theorem eZ (p:List Nat) (q:List Int) (x y:E) (fs:List F) (ks js:List Int) (h:(su (.z 4 x y::fs) ks ⟨0,[],[]⟩&&su (.z 4 y x::fs) js ⟨0,[],[]⟩)=true):dn p q fs (x.Z p q=y.Z p q):= vV Int.le_antisymm fs (go p q (.z 0 x y) fs ks (bt h).1) (go p q (.z 0 y x) fs js (bt h).2)
theorem dQ (p:List Nat) (fs:List F) (ks:List Int) (h:su fs ks ⟨0,[],[]⟩=true):dn p [] fs False:=no p [] fs ks h
theorem goN (p:List Nat) (f:F) (fs:List F) (ks:List Int) (h:(f.g'&&su (f.n'::fs) ks ⟨0,[],[]⟩)=true):dn p [] fs (f.d p []):=go p [] f fs ks h
theorem gY (p:List Nat) (x y:E) (fs:List F) (ks js:List Int) (h:(su (.n 4 x y::fs) ks ⟨0,[],[]⟩&&su (.n 4 y x::fs) js ⟨0,[],[]⟩)=true):dn p [] fs (x.N p=y.N p):=eN p [] x y fs ks js h
theorem sN (x y:Nat):x≤x-y+y:=by omega
theorem dv (k x:Nat) (h:Nat.blt 0 k=true):x<k*(x/k)+k:=Nat.lt_mul_div_succ x (Nat.blt_eq.mp h)
theorem md (k x:Nat) (h:Nat.blt 0 k=true):x%k<k:=Nat.mod_lt x (Nat.blt_eq.mp h)
theorem dz (k x:Int) (h:decide (0<k)=true):k*(x/k)≤x∧x<k*(x/k)+k:=⟨Int.mul_ediv_self_le (Int.ne_of_gt (of_decide_eq_true h)),Int.lt_mul_ediv_self_add (of_decide_eq_true h)⟩
theorem tP {a:Int} (h:0≤a):(a.toNat:Int)=a:=Int.toNat_of_nonneg h
theorem tQ {a:Int} (h:a≤0):a.toNat=0:=Int.toNat_of_nonpos h
theorem tL (a:Int):a≤a.toNat:=Int.self_le_toNat a
theorem sC {a b:Nat} (h:b≤a):a-b+b=a:=Nat.sub_add_cancel h
theorem sZ {a b:Nat} (h:a≤b):a-b=0:=Nat.sub_eq_zero_of_le h
theorem sL (a b:Nat):a-b≤a:=Nat.sub_le a b
theorem lT (a b:Nat):a≤b∨b≤a:=Nat.le_total a b
theorem lZ (a b:Int):a≤b∨b≤a:=Int.le_total a b
end Ar
theorem Ug {a c:Int} {n:Nat} (h:a+n<c):a<c:=Int.lt_of_le_of_lt (Int.le_add_of_nonneg_right (Int.natCast_nonneg n)) h
theorem GZ:∀{k:Int},0≤k→k<7→k=0∨k=1∨k=2∨k=3∨k=4∨k=5∨k=6
 |.ofNat 0,_,_=>.inl rfl
 |.ofNat 1,_,_=>.inr (.inl rfl)
 |.ofNat 2,_,_=>.inr (.inr (.inl rfl))
 |.ofNat 3,_,_=>.inr (.inr (.inr (.inl rfl)))
 |.ofNat 4,_,_=>.inr (.inr (.inr (.inr (.inl rfl))))
 |.ofNat 5,_,_=>.inr (.inr (.inr (.inr (.inr (.inl rfl)))))
 |.ofNat 6,_,_=>.inr (.inr (.inr (.inr (.inr (.inr rfl)))))
 |.ofNat (n+7),_,h=>absurd h (Int.not_lt.mpr (Int.ofNat_le.mpr (Nat.le_add_left 7 n)))
 |.negSucc _,h,_=>nomatch h
theorem half:∀{p:Int},0≤p→p≠0→((p-1)/2).toNat=(p.toNat-1)/2
 |.ofNat 0,_,h=>absurd rfl h
 |.ofNat (n+1),_,_=>by show (((n:Int)+1-1)/2).toNat=n/2;rw [Int.add_sub_cancel];rfl
 |.negSucc _,h,_=>nomatch h
theorem kid {j p:Nat} (h:0<j) (e:(j-1)/2=p):j=2*p+1∨j=2*p+2:=by
 cases j with
 |zero=>cases h
 |succ n=>
  have e:n/2=p:=e;have d:=Nat.div_add_mod n 2;rw [e] at d;rcases Nat.mod_two_eq_zero_or_one n with q|q <;>rw [q] at d
  ·exact .inl (congrArg Nat.succ d.symm)
  ·exact .inr (congrArg Nat.succ d.symm)
theorem ers {i n:Nat} (h:i<n):min i n-0+(min n n-(i+1))=n-1:=by rw [Nat.min_eq_left (Nat.le_of_lt h),Nat.min_self];obtain ⟨k,rfl⟩:=Nat.exists_eq_add_of_le h;rw [Nat.add_sub_cancel_left,Nat.succ_add];rfl
theorem Va (a:Nat):(a+1+6)/7=(a-6+6)/7+1:=by
 rcases Nat.le_total 6 a with h|h
 ·rw [Nat.sub_add_cancel h];exact Nat.add_div_right a (show 0<7 by decide)
 ·rw [Nat.sub_eq_zero_of_le h];exact Nat.div_eq_of_lt_le (Nat.le_add_left 7 a) (Nat.lt_of_le_of_lt (Nat.add_le_add_right h 7) (by decide))
theorem Uh (a b:Nat):max (0:Int) (min (a:Int) (b:Int))=((min a b:Nat):Int):=by
 rcases Nat.le_total a b with h|h
 ·rw [Nat.min_eq_left h,Int.min_eq_left (Int.ofNat_le.mpr h)];exact Int.max_eq_right (Int.natCast_nonneg a)
 ·rw [Nat.min_eq_right h,Int.min_eq_right (Int.ofNat_le.mpr h)];exact Int.max_eq_right (Int.natCast_nonneg b)
theorem Ui {a b:Nat} (h:b+1≤a):((a:Int)-1+-1*(b:Int)).toNat=a-1-b:=by
 obtain ⟨k,rfl⟩:=Nat.exists_eq_add_of_le h;have e:((b+1+k:Nat):Int)-1+-1*(b:Int)=k:=by show ((b:Int)+1+k)-1+-1*(b:Int)=k;rw [Int.neg_one_mul,Int.add_right_comm,Int.add_sub_cancel,Int.add_comm (b:Int) k,Int.add_neg_cancel_right]
 rw [e,Nat.add_right_comm,Nat.add_sub_cancel,Nat.add_sub_cancel_left];rfl
section
open Ar
variable {a b c d e f g h:Nat} {i j k l m u v w:Int}
theorem ox1:0≤i→j=i+1+(a:Int)+1→j.toNat=i.toNat+(a+1+1):=fun h0 h1=>eN [a,j.toNat,i.toNat] [j,i] x1 (p x2 (p (p x0 c1) c1)) [z2 y0 (p (p (p y1 c1) x0) c1),z0 y0 x1,z0 y1 x2,z2 x1 y0,z2 x2 y1] [1,1,0,1,1,0] [1,-1,1,0,0,1] rfl h1 (tL j) (tL i) (tP (go [a] [i,j] (z0 c0 y1) [z0 c0 y0,z2 y1 (p (p (p y0 c1) x0) c1)] [1,1,-1] rfl h0 h1)) (tP h0)
theorem ox2:0≤i→j=i+1+(a:Int)+1→0≤j:=go [a] [i,j] (z0 c0 y1) [z0 c0 y0,z2 y1 (p (p (p y0 c1) x0) c1)] [1,1,-1] rfl
theorem Y7:i.toNat=j.toNat→0≤i→0≤j→i=j:=fun h0 h1 h2=>eZ [i.toNat,j.toNat] [i,j] y0 y1 [n2 x0 x1,z0 y0 x0,z0 y1 x1,z2 x0 y0,z2 x1 y1] [1,1,1,0,0,1] [1,-1,0,1,1,0] rfl h0 (tL i) (tL j) (tP h1) (tP h2)
theorem Y8:0≤i→(2*i+1+1).toNat=2*i.toNat+2:=fun h0=>eN [(2*i+1+1).toNat,i.toNat] [i] x0 (p (.m 2 x1) c2) [z0 (p (p (.m 2 y0) c1) c1) x0,z0 y0 x1,z2 x0 (p (p (.m 2 y0) c1) c1),z2 x1 y0] [1,0,2,1,0] [1,1,0,0,2] rfl (tL (2*i+1+1)) (tL i) (tP (go [] [i] (z0 c0 (p (p (.m 2 y0) c1) c1)) [z0 c0 y0] [1,2] rfl h0)) (tP h0)
theorem Vb:a+b+c+d+(e+1)<900000→f≤c+e→a+b+f+d+1<1000000:=goN [a,b,c,d,e,f] (n1 (p (p (p (p x0 x1) x5) x3) c1) (.n 1000000)) [n1 (p (p (p (p x0 x1) x2) x3) (p x4 c1)) (.n 900000),n0 x5 (p x2 x4)] [1,1,1] rfl
theorem Vc:a+b+1<1000000→a+1<1000000:=goN [a,b] (n1 (p x0 c1) (.n 1000000)) [n1 (p (p x0 x1) c1) (.n 1000000)] [1,1] rfl
theorem Vd:a+b+1<1000000→a+1+b<1000000:=goN [a,b] (n1 (p (p x0 c1) x1) (.n 1000000)) [n1 (p (p x0 x1) c1) (.n 1000000)] [1,1] rfl
theorem oq0:i=j→j≤i:=go [] [i,j] (z0 y1 y0) [z2 y0 y1] [1,-1] rfl
theorem oq1:i=j→i≤j:=go [] [i,j] (z0 y0 y1) [z2 y0 y1] [1,1] rfl
theorem oq2:¬(i<j)→j≤i:=go [] [i,j] (z0 y1 y0) [z3 y0 y1] [1,1] rfl
theorem oq3:i<j→i≤j:=go [] [i,j] (z0 y0 y1) [z1 y0 y1] [1,1] rfl
theorem oq4:a≤0→0<a→i≤j:=fun h0 h1=>False.elim (dQ [a] [n0 x0 c0,n1 c0 x0] [1,1] rfl h0 h1)
theorem Y9:0<a→(a-1)/2≠a:=fun h0=>fun s0=>dQ [a,(a-1)/2,a-1] [n1 c0 x0,n2 x1 x0,n0 x2 x0,n0 (.m 2 x1) x2] [1,-2,1,1] rfl h0 s0 (sL a 1) (Nat.mul_div_le (a-1) 2)
theorem oq6:a=0→0<a→i≤j:=fun h0 h1=>False.elim (dQ [a] [n2 x0 c0,n1 c0 x0] [1,1] rfl h0 h1)
theorem oq7:a≤b+0→b<a→False:=dQ [a,b] [n0 x0 (p x1 c0),n1 x1 x0] [1,1] rfl
theorem oq8:a≠0→(a-1)/2<a:=fun h0=>goN [a,a-1,(a-1)/2] (n1 x2 x0) [n1 c0 x0,n0 x1 x0,n0 (.m 2 x2) x1] [100,1,50,50] rfl (Nat.pos_of_ne_zero h0) (sL a 1) (Nat.mul_div_le (a-1) 2)
theorem Uj:a<b→(a-1)/2<b:=fun h0=>goN [a,b,a-1,(a-1)/2] (n1 x3 x1) [n1 x0 x1,n0 x2 x0,n0 (.m 2 x3) x2] [2,1,1,1] rfl h0 (sL a 1) (Nat.mul_div_le (a-1) 2)
theorem Mr:a<b+1→a≠b→a<b:=fun h0 h1=>(Nat.lt_or_gt_of_ne h1).elim (fun s0=>goN [a,b] (n1 x0 x1) [n1 x0 x1] [1,1] rfl s0) (fun s0=>goN [a,b] (n1 x0 x1) [n1 x0 (p x1 c1),n1 x1 x0] [1,2,1] rfl h0 s0)
theorem Ve:a≤b+(c+1)→b<d→a≤d+c:=goN [a,b,c,d] (n0 x0 (p x3 x2)) [n0 x0 (p x1 (p x2 c1)),n1 x1 x3] [1,1,1] rfl
theorem D4:0<a→a=a-1+1:=fun h0=>gY [a,a-1] x0 (p x1 c1) [n0 x0 (p x1 c1),n2 (p x1 c1) x0] [1,1,0] [1,0,1] rfl (sN a 1) (sC (goN [a] (n0 c1 x0) [n1 c0 x0] [1,1] rfl h0))
theorem zz:a+1<b+1→a<b:=goN [a,b] (n1 x0 x1) [n1 (p x0 c1) (p x1 c1)] [1,1] rfl
theorem Vf:i=j→j≤k→i≤k:=go [] [i,j,k] (z0 y0 y2) [z2 y0 y1,z0 y1 y2] [1,1,1] rfl
theorem Vg:a≠0→0<a:=fun h0=>goN [a] (n1 c0 x0) [n1 c0 x0] [1,1] rfl (Nat.pos_of_ne_zero h0)
theorem Vh:a≠0→a≠(a-1)/2:=fun h0=>fun s0=>dQ [a,(a-1)/2,a-1] [n1 c0 x0,n2 x0 x1,n0 x2 x0,n0 (.m 2 x1) x2] [1,2,1,1] rfl (Nat.pos_of_ne_zero h0) s0 (sL a 1) (Nat.mul_div_le (a-1) 2)
theorem Ms:i≤j→j≤k→i≤k:=go [] [i,j,k] (z0 y0 y2) [z0 y0 y1,z0 y1 y2] [1,1,1] rfl
theorem Vi:a<b+1→(a-1)/2≠b→(a-1)/2<b:=fun h0 h1=>(Nat.lt_or_gt_of_ne h1).elim (fun s0=>goN [(a-1)/2,b] (n1 x0 x1) [n1 x0 x1] [1,1] rfl s0) (fun s0=>goN [a,b,(a-1)/2,a-1] (n1 x2 x1) [n1 x0 (p x1 c1),n1 x1 x2,n0 x3 x0,n0 (.m 2 x2) x3] [9900,5000,99,5000,5000] rfl h0 s0 (sL a 1) (Nat.mul_div_le (a-1) 2))
theorem Vj:(a-1)/2≠0→0<(a-1)/2:=fun h0=>goN [(a-1)/2] (n1 c0 x0) [n1 c0 x0] [1,1] rfl (Nat.pos_of_ne_zero h0)
theorem Vk:a≤b+1→(a-1)/2≤b:=fun h0=>goN [a,b,a-1,(a-1)/2] (n0 x3 x1) [n0 x0 (p x1 c1),n0 x2 x0,n0 (.m 2 x3) x2] [2,1,1,1] rfl h0 (sL a 1) (Nat.mul_div_le (a-1) 2)
theorem Mt:0<a→a<b+1→(a-1)/2=b→False:=fun h0 h1 h2=>dQ [a,b,(a-1)/2,a-1] [n1 c0 x0,n1 x0 (p x1 c1),n2 x2 x1,n0 x3 x0,n0 (.m 2 x2) x3] [1,2,-2,1,1] rfl h0 h1 h2 (sL a 1) (Nat.mul_div_le (a-1) 2)
theorem Vl:a=b+1+1→c<b+1→c<a:=goN [a,b,c] (n1 x2 x0) [n2 x0 (p (p x1 c1) c1),n1 x2 (p x1 c1)] [1,-1,1] rfl
theorem Mw:a<b→(c-1)/2=b→c≠a:=fun h0 h1=>fun s0=>dQ [a,b,(c-1)/2,c,c-1] [n1 x0 x1,n2 x2 x1,n2 x3 x0,n0 x4 x3,n0 (.m 2 x2) x4] [2,-2,1,1,1] rfl h0 h1 s0 (sL c 1) (Nat.mul_div_le (c-1) 2)
theorem Mx:a+1≤2*b+1→0<c→c<a+1→(c-1)/2=b→False:=fun h0 h1 h2 h3=>dQ [a,b,c,(c-1)/2,c-1] [n0 (p x0 c1) (p (.m 2 x1) c1),n1 x2 (p x0 c1),n2 x3 x1,n0 (.m 2 x3) x4,n2 (p x4 c1) x2] [1,1,-2,1,1] rfl h0 h2 h3 (Nat.mul_div_le (c-1) 2) (sC (goN [c] (n0 c1 x0) [n1 c0 x0] [1,1] rfl h1))
theorem Vm:a<b→(c-1)/2=b→(c-1)/2≠a:=fun h0 h1=>fun s0=>dQ [a,b,(c-1)/2] [n1 x0 x1,n2 x2 x1,n2 x2 x0] [1,-1,1] rfl h0 h1 s0
theorem Vn:(a-1)/2≠(b-1)/2→(a-1)/2=b→0<b:=fun h0 h1=>(Nat.lt_or_gt_of_ne h0).elim (fun s0=>goN [(a-1)/2,(b-1)/2,b-1,b] (n1 c0 x3) [n1 x0 x1,n0 x2 x3,n0 (.m 2 x1) x2] [100,1,1,1] rfl s0 (sL b 1) (Nat.mul_div_le (b-1) 2)) (fun s0=>goN [(a-1)/2,b,(b-1)/2] (n1 c0 x1) [n2 x0 x1,n1 x2 x0] [100,1,1] rfl h1 s0)
theorem Vo:a<b→a≠b:=fun h0=>fun s0=>dQ [a,b] [n1 x0 x1,n2 x0 x1] [1,-1] rfl h0 s0
theorem Vp:i≤j→i=k→k≤j:=go [] [i,j,k] (z0 y2 y1) [z0 y0 y1,z2 y0 y2] [1,1,-1] rfl
theorem My:0<2*a+1:=goN [a] (n1 c0 (p (.m 2 x0) c1)) [] [1] rfl
theorem Mz:(2*a+1-1)/2=a:=gY [a,2*a+1-1,(2*a+1-1)/2] x2 x0 [n0 (p (.m 2 x0) c1) (p x1 c1),n0 x1 (p (.m 2 x0) c1),n0 (.m 2 x2) x1,n1 x1 (p (.m 2 x2) c2)] [2,0,1,1,0] [2,1,0,0,1] rfl (sN (2*a+1) 1) (sL (2*a+1) 1) (Nat.mul_div_le (2*a+1-1) 2) (dv 2 (2*a+1-1) rfl)
theorem MA:a<2*a+1:=goN [a] (n1 x0 (p (.m 2 x0) c1)) [] [1] rfl
theorem Vq:a≠0→(b-1)/2=(a-1)/2→(b-1)/2≠a:=fun h0 h1=>fun s0=>dQ [a,(b-1)/2,(a-1)/2,a-1] [n1 c0 x0,n2 x1 x2,n2 x1 x0,n0 x3 x0,n0 (.m 2 x2) x3] [1,2,-2,1,1] rfl (Nat.pos_of_ne_zero h0) h1 s0 (sL a 1) (Nat.mul_div_le (a-1) 2)
theorem Vr:i=j→k≤j→i≤l→k≤l:=go [] [i,j,k,l] (z0 y2 y3) [z2 y0 y1,z0 y2 y1,z0 y0 y3] [1,-1,1,1] rfl
theorem Vs:a≤2*b+2→0<c→c<a→(c-1)/2=b→c=2*b+1:=fun h0 h1 h2 h3=>gY [a,b,c,(c-1)/2,c-1] x2 (p (.m 2 x1) c1) [n0 x0 (p (.m 2 x1) c2),n1 x2 x0,n2 x3 x1,n0 (.m 2 x3) x4,n2 (p x4 c1) x2] [1,1,1,0,0,0] [1,0,0,-2,1,1] rfl h0 h2 h3 (Nat.mul_div_le (c-1) 2) (sC (goN [c] (n0 c1 x0) [n1 c0 x0] [1,1] rfl h1))
theorem Vt:0<(a-1)/2→(a-1)/2≠a:=fun h0=>fun s0=>dQ [(a-1)/2,a,a-1] [n1 c0 x0,n2 x0 x1,n0 x2 x1,n0 (.m 2 x0) x2] [1,-1,1,1] rfl h0 s0 (sL a 1) (Nat.mul_div_le (a-1) 2)
theorem MB:0<(a-1)/2→((a-1)/2-1)/2≠a:=fun h0=>fun s0=>dQ [(a-1)/2,((a-1)/2-1)/2,a,a-1,(a-1)/2-1] [n1 c0 x0,n2 x1 x2,n0 x3 x2,n0 (.m 2 x0) x3,n0 x4 x0,n0 (.m 2 x1) x4] [3,-2,2,2,1,1] rfl h0 s0 (sL a 1) (Nat.mul_div_le (a-1) 2) (sL ((a-1)/2) 1) (Nat.mul_div_le ((a-1)/2-1) 2)
theorem Vu:0<2*a+2:=goN [a] (n1 c0 (p (.m 2 x0) c2)) [] [1] rfl
theorem Vv:(2*a+2-1)/2=a:=gY [a,2*a+2-1,(2*a+2-1)/2] x2 x0 [n0 (p (.m 2 x0) c2) (p x1 c1),n0 x1 (p (.m 2 x0) c2),n0 (.m 2 x2) x1,n1 x1 (p (.m 2 x2) c2),n2 (p x1 c1) (p (.m 2 x0) c2)] [100,0,49,50,0,1] [2,1,0,0,1,0] rfl (sN (2*a+2) 1) (sL (2*a+2) 1) (Nat.mul_div_le (2*a+2-1) 2) (dv 2 (2*a+2-1) rfl) (sC (goN [a] (n0 c1 (p (.m 2 x0) c2)) [] [1] rfl))
theorem Vw:a<2*a+2:=goN [a] (n1 x0 (p (.m 2 x0) c2)) [] [1] rfl
theorem Vx:i=j→k≤i→k≤j:=go [] [i,j,k] (z0 y2 y1) [z2 y0 y1,z0 y2 y0] [1,1,1] rfl
theorem Vy:¬(2*a+1<b)→b≤2*a+1:=goN [a,b] (n0 x1 (p (.m 2 x0) c1)) [n3 (p (.m 2 x0) c1) x1] [1,1] rfl
theorem Vz:0<(a-1)/2→(b-1)/2=(a-1)/2→(b-1)/2≠a:=fun h0 h1=>fun s0=>dQ [(a-1)/2,(b-1)/2,a,a-1] [n1 c0 x0,n2 x1 x0,n2 x1 x2,n0 x3 x2,n0 (.m 2 x0) x3] [1,1,-1,1,1] rfl h0 h1 s0 (sL a 1) (Nat.mul_div_le (a-1) 2)
theorem VA:a≤b→b+c=a+c+(b-a):=fun h0=>gY [b,b-a,a,c] (p x0 x3) (p (p x2 x3) x1) [n0 x0 (p x1 x2),n2 (p x1 x2) x0] [1,1,0] [1,0,1] rfl (sN b a) (sC h0)
theorem VB:1+a≤3*a+4:=goN [a] (n0 (p c1 x0) (p (.m 3 x0) c4)) [] [1] rfl
theorem VC:1+(a+(1+a))≤3*a+4:=goN [a] (n0 (p c1 (p x0 (p c1 x0))) (p (.m 3 x0) c4)) [] [1] rfl
theorem VD:1+(a+(1+(a+(1+a))))≤3*a+4:=goN [a] (n0 (p c1 (p x0 (p c1 (p x0 (p c1 x0))))) (p (.m 3 x0) c4)) [] [1] rfl
theorem D5:a<9000→a<9900:=goN [a] (n1 x0 (.n 9900)) [n1 x0 (.n 9000)] [1,1] rfl
theorem MC:min a b-c=0→min a b≤c:=fun h0=>goN [min a b-c,min a b,c] (n0 x1 x2) [n2 x0 c0,n0 x1 (p x0 x2)] [1,1,1] rfl h0 (sN (min a b) c)
theorem MD:min a b-c=0→a≤b→a≤c:=fun h0 h1=>(lT a b).elim (fun s0=>goN [min a b-c,min a b,a,c] (n0 x2 x3) [n2 x0 c0,n2 x1 x2,n0 x1 (p x0 x3)] [1,1,-1,1] rfl h0 (Nat.min_eq_left s0) (sN (min a b) c)) (fun s0=>goN [min a b-c,a,b,min a b,c] (n0 x1 x4) [n2 x0 c0,n0 x1 x2,n2 x3 x2,n0 x3 (p x0 x4)] [1,1,1,-1,1] rfl h0 h1 (Nat.min_eq_right s0) (sN (min a b) c))
theorem ME:min a b-c=0→b≤a→b≤c:=fun h0 h1=>(lT a b).elim (fun s0=>goN [min a b-c,b,a,min a b,c] (n0 x1 x4) [n2 x0 c0,n0 x1 x2,n2 x3 x2,n0 x3 (p x0 x4)] [1,1,1,-1,1] rfl h0 h1 (Nat.min_eq_left s0) (sN (min a b) c)) (fun s0=>goN [min a b-c,min a b,b,c] (n0 x2 x3) [n2 x0 c0,n2 x1 x2,n0 x1 (p x0 x3)] [1,1,-1,1] rfl h0 (Nat.min_eq_right s0) (sN (min a b) c))
theorem MF:min a b-c=d+1→c<a:=fun h0=>(lT (min a b) c).elim (fun s1=>False.elim (dQ [min a b-c,d] [n2 x0 (p x1 c1),n2 x0 c0] [-1,1] rfl h0 (sZ s1))) (fun s1=>goN [min a b-c,d,c,min a b,a] (n1 x2 x4) [n2 x0 (p x1 c1),n2 (p x0 x2) x3,n0 x3 x4] [100,-1,100,100] rfl h0 (sC s1) (Nat.min_le_left a b))
theorem MG:min a b-c=d+1→c<b:=fun h0=>(lT (min a b) c).elim (fun s1=>False.elim (dQ [min a b-c,d] [n2 x0 (p x1 c1),n2 x0 c0] [-1,1] rfl h0 (sZ s1))) (fun s1=>goN [min a b-c,d,c,min a b,b] (n1 x2 x4) [n2 x0 (p x1 c1),n2 (p x0 x2) x3,n0 x3 x4] [100,-1,100,100] rfl h0 (sC s1) (Nat.min_le_right a b))
theorem MH:a<b→a<c→a<min b c:=fun h0 h1=>(lT b c).elim (fun s0=>goN [a,b,min b c] (n1 x0 x2) [n1 x0 x1,n2 x2 x1] [1,1,-1] rfl h0 (Nat.min_eq_left s0)) (fun s0=>goN [a,c,min b c] (n1 x0 x2) [n1 x0 x1,n2 x2 x1] [1,1,-1] rfl h1 (Nat.min_eq_right s0))
theorem MJ:min a b-c=d+1→min a b-(c+1)=d:=fun h0=>(lT (min a b) c).elim (fun s7=>False.elim (dQ [min a b-c,d] [n2 x0 (p x1 c1),n2 x0 c0] [-1,1] rfl h0 (sZ s7))) (fun s7=>(lT (min a b) (c+1)).elim (fun VE=>gY [min a b-c,d,c,min a b,min a b-(c+1)] x4 x1 [n2 x0 (p x1 c1),n2 (p x0 x2) x3,n2 x4 c0,n0 x3 (p x4 (p x2 c1))] [1,0,0,1,0] [1,-1,1,0,1] rfl h0 (sC s7) (sZ VE) (sN (min a b) (c+1))) (fun VE=>gY [min a b-c,d,c,min a b,min a b-(c+1)] x4 x1 [n2 x0 (p x1 c1),n2 (p x0 x2) x3,n2 (p x4 (p x2 c1)) x3] [1,1,-1,1] [1,-1,1,-1] rfl h0 (sC s7) (sC VE)))
theorem VF:a<7→i=(a:Int)→0≤i∧i<64:=fun h0 h1=>⟨go [a] [i] (z0 c0 y0) [z2 y0 x0] [1,-1] rfl h1,go [a] [i] (z1 y0 (.n 64)) [n1 x0 c7,z2 y0 x0] [1,1,1] rfl h0 h1⟩
theorem o4:i=(a:Int)→i.toNat=a:=fun h0=>eN [a,i.toNat] [i] x1 x0 [z2 y0 x0,z0 y0 x1,z2 x1 y0] [1,1,0,1] [1,-1,1,0] rfl h0 (tL i) (tP (go [a] [i] (z0 c0 y0) [z2 y0 x0] [1,-1] rfl h0))
theorem VG:a≤1000→a=b→(c+c)*1≤b→c+c≤16777216:=goN [a,b,c] (n0 (p x2 x2) (.n 16777216)) [n0 x0 (.n 1000),n2 x0 x1,n0 (.r (p x2 x2) 1) x1] [1,1,-1,1] rfl
theorem VH:a≤1000→a=b→b≤1000:=goN [a,b] (n0 x1 (.n 1000)) [n0 x0 (.n 1000),n2 x0 x1] [1,1,-1] rfl
theorem tO:¬((a:Int)<0):=fun s0=>dQ [a] [z1 x0 c0] [1] rfl s0
theorem VI:((a:Int)≠0↔a≠0):=⟨fun s0=>fun s1=>(Int.lt_or_gt_of_ne s0).elim (fun s2=>dQ [a] [n2 x0 c0,z1 x0 c0] [1,1] rfl s1 s2) (fun s2=>dQ [a] [n2 x0 c0,z1 c0 x0] [1,1] rfl s1 s2),fun s0=>fun s3=>dQ [a] [n1 c0 x0,z2 x0 c0] [1,1] rfl (Nat.pos_of_ne_zero s0) s3⟩
theorem VJ:a=b-c→d=a→(b:Int)+(a:Int)-2*(d:Int)≤(c:Int):=fun h0 h1=>goN [a,b-c,d,b,c] (z0 (q (p x3 x0) (.m 2 x2)) x4) [n2 x0 x1,n2 x2 x0,n0 x3 (p x1 x4)] [1,-1,-2,1] rfl h0 h1 (sN b c)
theorem VK:i<1000→i<1000000:=go [] [i] (z1 y0 (.n 1000000)) [z1 y0 (.n 1000)] [1,1] rfl
theorem VL:0≤i→i≤((0:Nat):Int)→i=0:=eZ [] [i] y0 c0 [z0 c0 y0,z0 y0 c0] [1,0,1] [1,1,0] rfl
theorem D6:a+1<b→b=b-1+1:=fun h0=>gY [b,b-1] x0 (p x1 c1) [n0 x0 (p x1 c1),n2 (p x1 c1) x0] [1,1,0] [1,0,1] rfl (sN b 1) (sC (goN [a,b] (n0 c1 x1) [n1 (p x0 c1) x1] [2,1] rfl h0))
theorem VM:0≤i→i≠0→0<i:=fun h0 h1=>(Int.lt_or_gt_of_ne h1).elim (fun s0=>go [] [i] (z1 c0 y0) [z0 c0 y0,z1 y0 c0] [1,2,1] rfl h0 s0) (fun s0=>go [] [i] (z1 c0 y0) [z1 c0 y0] [1,1] rfl s0)
theorem VN:0≤i→i≠0→j=(i-1)/2→0≤j:=fun h0 h1 h2=>(Int.lt_or_gt_of_ne h1).elim (fun s0=>go [] [i,j,(i-1)/2] (z0 c0 y1) [z0 c0 y0,z2 y1 y2,z1 y0 c0,z1 (q y0 c1) (p (.m 2 y2) c2)] [2,3,-2,2,1] rfl h0 h2 s0 (dz 2 (i-1) rfl).2) (fun s0=>go [] [i,j,(i-1)/2] (z0 c0 y1) [z0 c0 y0,z2 y1 y2,z1 c0 y0,z1 (q y0 c1) (p (.m 2 y2) c2)] [100,49,-100,1,50] rfl h0 h2 s0 (dz 2 (i-1) rfl).2)
theorem VO:i=(j-1)/2→0≤i→i<j:=fun h0 h1=>go [] [i,(j-1)/2,j] (z1 y0 y2) [z2 y0 y1,z0 c0 y0,z0 (.m 2 y1) (q y2 c1)] [1,2,1,1] rfl h0 h1 (dz 2 (j-1) rfl).1
theorem VP:i<(a:Int)→0≤j→j<i→j.toNat<a:=fun h0 h1 h2=>go [a,j.toNat] [i,j] (n1 x1 x0) [z1 y0 x0,z1 y1 y0,z2 x1 y1] [1,1,1,1] rfl h0 h2 (tP h1)
theorem VQ:0≤i→i<j→1≤j:=go [] [i,j] (z0 c1 y1) [z0 c0 y0,z1 y0 y1] [1,1,1] rfl
theorem VR:a<100→i.toNat<a→i<1000:=fun h0 h1=>go [a,i.toNat] [i] (z1 y0 (.n 1000)) [n1 x0 (.n 100),n1 x1 x0,z0 y0 x1] [1,1,1,1] rfl h0 h1 (tL i)
theorem MK:0≤i→i<j→j.toNat≠0:=fun h0 h1=>fun s0=>no [j.toNat] [i,j] [z0 c0 y0,z1 y0 y1,n2 x0 c0,z0 y1 x0] [1,1,1,1] rfl h0 h1 s0 (tL j)
theorem VS:i.toNat<a→i<(a:Int):=fun h0=>go [i.toNat,a] [i] (z1 y0 x1) [n1 x0 x1,z0 y0 x0] [1,1,1] rfl h0 (tL i)
theorem VT:i≤((a+1:Nat):Int)→j.toNat=(i.toNat-1)/2→j≤(a:Int):=fun h0 h1=>(lZ 0 i).elim (fun s1=>go [a,j.toNat,(i.toNat-1)/2,i.toNat,i.toNat-1] [i,j] (z0 y1 x0) [z0 y0 (p x0 c1),n2 x1 x2,z2 x3 y0,z0 y1 x1,n0 x4 x3,n0 (.m 2 x2) x4] [2,1,2,1,2,1,1] rfl h0 h1 (tP s1) (tL j) (sL i.toNat 1) (Nat.mul_div_le (i.toNat-1) 2)) (fun s1=>go [j.toNat,(i.toNat-1)/2,i.toNat,i.toNat-1,a] [j] (z0 y0 x4) [n2 x0 x1,n2 x2 c0,z0 y0 x0,n0 x3 x2,n0 (.m 2 x1) x3] [2,2,1,2,1,1] rfl h1 (tQ s1) (tL j) (sL i.toNat 1) (Nat.mul_div_le (i.toNat-1) 2))
theorem VU:a+20*(b+1)+20≤8000→a+3+20*b+37≤8000:=goN [a,b] (n0 (p (p (p x0 c3) (.m 20 x1)) (.n 37)) (.n 8000)) [n0 (p (p x0 (.m 20 (p x1 c1))) (.n 20)) (.n 8000)] [1,1] rfl
theorem VV:a+(b+1)≤800→a+1+b≤800:=goN [a,b] (n0 (p (p x0 c1) x1) (.n 800)) [n0 (p x0 (p x1 c1)) (.n 800)] [1,1] rfl
theorem D7:a<b→c=b+1→a≤c:=goN [a,b,c] (n0 x0 x2) [n1 x0 x1,n2 x2 (p x1 c1)] [1,1,-1] rfl
theorem ML:a<b→c=b+1→c≠a:=fun h0 h1=>fun s0=>dQ [a,b,c] [n1 x0 x1,n2 x2 (p x1 c1),n2 x2 x0] [1,-1,1] rfl h0 h1 s0
theorem MM:a=b+1→a≠b:=fun h0=>fun s0=>dQ [a,b] [n2 x0 (p x1 c1),n2 x0 x1] [-1,1] rfl h0 s0
theorem MN:a=b+1→b≤a:=goN [a,b] (n0 x1 x0) [n2 x0 (p x1 c1)] [1,-1] rfl
theorem MO:a<b→c=b+1→¬(c<a):=fun h0 h1=>fun s0=>dQ [a,b,c] [n1 x0 x1,n2 x2 (p x1 c1),n1 x2 x0] [1,-1,1] rfl h0 h1 s0
theorem VW:a=b+1→b≠a:=fun h0=>fun s0=>dQ [a,b] [n2 x0 (p x1 c1),n2 x1 x0] [-1,-1] rfl h0 s0
theorem VX:a+1+b=a+b+1:=gY [a,b] (p (p x0 c1) x1) (p (p x0 x1) c1) [] [1] [1] rfl
theorem IC:a<0→False:=dQ [a] [n1 x0 c0] [1] rfl
theorem tR:0<a+1:=goN [a] (n1 c0 (p x0 c1)) [] [1] rfl
theorem VY:a<b→a+1<b+1:=goN [a,b] (n1 (p x0 c1) (p x1 c1)) [n1 x0 x1] [1,1] rfl
theorem MP:a<128→0+a<128:=goN [a] (n1 (p c0 x0) (.n 128)) [n1 x0 (.n 128)] [1,1] rfl
theorem MQ:a+(b+1)<128→c=a→c<128:=goN [a,b,c] (n1 x2 (.n 128)) [n1 (p x0 (p x1 c1)) (.n 128),n2 x2 x0] [1,1,1] rfl
theorem MR:a+(b+1)<128→a+1+b<128:=goN [a,b] (n1 (p (p x0 c1) x1) (.n 128)) [n1 (p x0 (p x1 c1)) (.n 128)] [1,1] rfl
theorem G0:a+(b+1)=a+1+b:=gY [a,b] (p x0 (p x1 c1)) (p (p x0 c1) x1) [] [1] [1] rfl
theorem MS:a<128→13+a<127+15:=goN [a] (n1 (p (.n 13) x0) (p (.n 127) (.n 15))) [n1 x0 (.n 128)] [1,1] rfl
theorem MU:-(a:Int)≤-(b:Int)→b≤a:=goN [a,b] (n0 x1 x0) [z0 (.g x0) (.g x1)] [1,1] rfl
theorem MV:a≤b*1010→b≤7→a<8000:=goN [a,b] (n1 x0 (.n 8000)) [n0 x0 (.r x1 1010),n0 x1 c7] [1,1,1010] rfl
theorem MW:a≤b*1010→c≤1010→c+a≤b*1010+1*1010:=goN [a,b,c] (n0 (p x2 x0) (p (.r x1 1010) (.m 1 (.n 1010)))) [n0 x0 (.r x1 1010),n0 x2 (.n 1010)] [1,1,1] rfl
theorem G2:a≤a+1:=goN [a] (n0 x0 (p x0 c1)) [] [1] rfl
theorem A1:a<900→a<1000:=goN [a] (n1 x0 (.n 1000)) [n1 x0 (.n 900)] [1,1] rfl
theorem MX:a<8000→b≤7→a+b<900000:=goN [a,b] (n1 (p x0 x1) (.n 900000)) [n1 x0 (.n 8000),n0 x1 c7] [1,1,1] rfl
theorem MY:a<32→a<90:=goN [a] (n1 x0 (.n 90)) [n1 x0 (.n 32)] [1,1] rfl
theorem MZ:a+20*b+37≤8000→a+1<9000:=goN [a,b] (n1 (p x0 c1) (.n 9000)) [n0 (p (p x0 (.m 20 x1)) (.n 37)) (.n 8000)] [1,1] rfl
theorem lD:i=(a:Int)→0≤i:=go [a] [i] (z0 c0 y0) [z2 y0 x0] [1,-1] rfl
theorem M1:a+(b+1)<1000→i.toNat=a→i<1000000:=fun h0 h1=>go [a,b,i.toNat] [i] (z1 y0 (.n 1000000)) [n1 (p x0 (p x1 c1)) (.n 1000),n2 x2 x0,z0 y0 x2] [1,1,1,1] rfl h0 h1 (tL i)
theorem xV:a≤a:=goN [a] (n0 x0 x0) [] [1] rfl
theorem M3:a+(b+1)<1000→a+1+b<1000:=goN [a,b] (n1 (p (p x0 c1) x1) (.n 1000)) [n1 (p x0 (p x1 c1)) (.n 1000)] [1,1] rfl
theorem M4:a<31→a+1≤64:=goN [a] (n0 (p x0 c1) (.n 64)) [n1 x0 (.n 31)] [1,1] rfl
theorem M5:a<31→a/30+1≤300:=fun h0=>goN [a,a/30] (n0 (p x1 c1) (.n 300)) [n1 x0 (.n 31),n0 (.m 30 x1) x0] [30,1,1] rfl h0 (Nat.mul_div_le a 30)
theorem M6:i<1→i.toNat=0:=fun h0=>(lZ 0 i).elim (fun s0=>eN [i.toNat] [i] x0 c0 [z1 y0 c1,z2 x0 y0] [1,1,1] [1,0,0] rfl h0 (tP s0)) (fun s0=>gY [i.toNat] x0 c0 [n2 x0 c0] [1,1] [1,0] rfl (tQ s0))
theorem M7:a≤300→¬(300<a):=fun h0=>fun s0=>dQ [a] [n0 x0 (.n 300),n1 (.n 300) x0] [1,1] rfl h0 s0
theorem M8:¬(i<1)→0<i:=go [] [i] (z1 c0 y0) [z3 y0 c1] [1,1] rfl
theorem M9:1≤i→¬(i<1):=fun h0=>fun s0=>no [] [i] [z0 c1 y0,z1 y0 c1] [1,1] rfl h0 s0
theorem Na:i.toNat≤16777216→¬(16777216<i.toNat):=fun h0=>fun s0=>dQ [i.toNat] [n0 x0 (.n 16777216),n1 (.n 16777216) x0] [1,1] rfl h0 s0
theorem Nb:-10000000000≤((i-j).toNat:Int):=goN [(i-j).toNat] (z0 (.g (.n 10000000000)) x0) [] [1] rfl
theorem G3:a<1000→a≤16777216:=goN [a] (n0 x0 (.n 16777216)) [n1 x0 (.n 1000)] [1,1] rfl
theorem A2:a<90→a<100:=goN [a] (n1 x0 (.n 100)) [n1 x0 (.n 90)] [1,1] rfl
theorem G4:a<90→a+1<1000:=goN [a] (n1 (p x0 c1) (.n 1000)) [n1 x0 (.n 90)] [1,1] rfl
theorem Nc:a=b+1→c=a→c=b+1:=gY [a,b,c] x2 (p x1 c1) [n2 x0 (p x1 c1),n2 x2 x0] [1,1,1] [1,-1,-1] rfl
theorem G5:a≤a+3:=goN [a] (n0 x0 (p x0 c3)) [] [1] rfl
theorem G6:a+5≤a+7:=goN [a] (n0 (p x0 c5) (p x0 c7)) [] [1] rfl
theorem Nd:(a:Int)<(b:Int)→a<b:=goN [a,b] (n1 x0 x1) [z1 x0 x1] [1,1] rfl
theorem Nf:a+b<1000000→a+b≤16777216:=goN [a,b] (n0 (p x0 x1) (.n 16777216)) [n1 (p x0 x1) (.n 1000000)] [1,1] rfl
theorem Ng:i=(a:Int)→i+(b:Int)=((a+b:Nat):Int):=eZ [a,b] [i] (p y0 x1) (p x0 x1) [z2 y0 x0] [1,1] [1,-1] rfl
theorem Nh:a+(b+1)<900000→a+b<900000:=goN [a,b] (n1 (p x0 x1) (.n 900000)) [n1 (p x0 (p x1 c1)) (.n 900000)] [1,1] rfl
theorem Ni:a+(b+1+1)≤a+(b+1)+1:=goN [a,b] (n0 (p x0 (p (p x1 c1) c1)) (p (p x0 (p x1 c1)) c1)) [] [1] rfl
theorem Nj:a≤b+c→d≤e+1→d+a≤e+b+(c+1):=goN [a,b,c,d,e] (n0 (p x3 x0) (p (p x4 x1) (p x2 c1))) [n0 x0 (p x1 x2),n0 x3 (p x4 c1)] [1,1,1] rfl
theorem Nk:i=j+(a:Int)→k=(a:Int)→i=j+k:=eZ [a] [i,j,k] y0 (p y1 y2) [z2 y0 (p y1 x0),z2 y2 x0] [1,1,-1] [1,-1,1] rfl
theorem Nl:i=(a:Int)→j=i+(b:Int)→j.toNat=a+b:=fun h0 h1=>eN [a,b,j.toNat] [i,j] x2 (p x0 x1) [z2 y0 x0,z2 y1 (p y0 x1),z0 y1 x2,z2 x2 y1] [1,1,1,0,1] [1,-1,-1,1,0] rfl h0 h1 (tL j) (tP (go [a,b] [i,j] (z0 c0 y1) [z2 y0 x0,z2 y1 (p y0 x1)] [1,-1,-1] rfl h0 h1))
theorem Nm:i=(a:Int)→j=i+(b:Int)→0≤j:=go [a,b] [i,j] (z0 c0 y1) [z2 y0 x0,z2 y1 (p y0 x1)] [1,-1,-1] rfl
theorem Nn:i=(a:Int)→b<3→j=i+(b:Int)→a+c+d+e+(f+1)<900000→j<1000000:=go [a,b,c,d,e,f] [i,j] (z1 y1 (.n 1000000)) [z2 y0 x0,n1 x1 c3,z2 y1 (p y0 x1),n1 (p (p (p (p x0 x2) x3) x4) (p x5 c1)) (.n 900000)] [1,1,1,1,1] rfl
theorem A5:a<7→a<1000:=goN [a] (n1 x0 (.n 1000)) [n1 x0 c7] [1,1] rfl
theorem Np:a≤7→b≤7→c=a→d=c→(d+b)*2<33:=goN [a,b,c,d] (n1 (.r (p x3 x1) 2) (.n 33)) [n0 x0 c7,n0 x1 c7,n2 x2 x0,n2 x3 x2] [1,2,2,2,2] rfl
theorem G7:8≤a→7≤a-1:=fun h0=>goN [a,a-1] (n0 c7 x1) [n0 c8 x0,n0 x0 (p x1 c1)] [1,1,1] rfl h0 (sN a 1)
theorem Nq:a≤7→7≤b→c=a→c≤b:=goN [a,b,c] (n0 x2 x1) [n0 x0 c7,n0 c7 x1,n2 x2 x0] [1,1,1,1] rfl
theorem Nr:a≤64→a≤16777216:=goN [a] (n0 x0 (.n 16777216)) [n0 x0 (.n 64)] [1,1] rfl
theorem Nt:a≤7→a≤16777216:=goN [a] (n0 x0 (.n 16777216)) [n0 x0 c7] [1,1] rfl
theorem Nu:a<90→a-1=b+1→b<90:=fun h0 h1=>goN [a,a-1,b] (n1 x2 (.n 90)) [n1 x0 (.n 90),n2 x1 (p x2 c1),n0 x1 x0] [1,1,-1,1] rfl h0 h1 (sL a 1)
theorem Nv:0<((a+1:Nat):Int):=goN [a] (z1 c0 (p x0 c1)) [] [1] rfl
theorem Nx:((a+1:Nat):Int)=(a:Int)+1:=eZ [a] [] (p x0 c1) (p x0 c1) [] [1] [1] rfl
theorem Ny:i=(a:Int)+1→0<i:=go [a] [i] (z1 c0 y0) [z2 y0 (p x0 c1)] [1,-1] rfl
theorem G8:a<90→a+1<100:=goN [a] (n1 (p x0 c1) (.n 100)) [n1 x0 (.n 90)] [1,1] rfl
theorem Nz:i=(a:Int)+1→i≤0+((a+1:Nat):Int):=go [a] [i] (z0 y0 (p c0 (p x0 c1))) [z2 y0 (p x0 c1)] [1,1] rfl
theorem NB:a<90→100≤b→a+1<b:=goN [a,b] (n1 (p x0 c1) x1) [n1 x0 (.n 90),n0 (.n 100) x1] [1,1,1] rfl
theorem NC:i=(a:Int)+1→j<i→j<((a+1:Nat):Int):=go [a] [i,j] (z1 y1 (p x0 c1)) [z2 y0 (p x0 c1),z1 y1 y0] [1,1,1] rfl
theorem A7:a≤0→a=0:=gY [a] x0 c0 [n0 x0 c0] [1,1] [1,0] rfl
theorem ND:a≤b+1→a-1≤b:=fun h0=>(lT a 1).elim (fun s0=>goN [a-1,b] (n0 x0 x1) [n2 x0 c0] [1,1] rfl (sZ s0)) (fun s0=>goN [a,b,a-1] (n0 x2 x1) [n0 x0 (p x1 c1),n2 (p x2 c1) x0] [1,1,1] rfl h0 (sC s0))
theorem G9:a≤7→b=a→b≤7:=goN [a,b] (n0 x1 c7) [n0 x0 c7,n2 x1 x0] [1,1,1] rfl
theorem A8:a≤7→a<1000:=goN [a] (n1 x0 (.n 1000)) [n0 x0 c7] [1,1] rfl
theorem Hf:i=(a:Int)→0<a→0<i:=go [a] [i] (z1 c0 y0) [z2 y0 x0,n1 c0 x0] [1,-1,1] rfl
theorem NF:i=(a:Int)→0≤j→j<i→j=(j.toNat:Int)∧j.toNat<a:=fun h0 h1 h2=>⟨eZ [j.toNat] [j] y0 x0 [z0 y0 x0,z2 x0 y0] [1,1,0] [1,0,1] rfl (tL j) (tP h1),go [a,j.toNat] [i,j] (n1 x1 x0) [z2 y0 x0,z1 y1 y0,z2 x1 y1] [1,1,1,1] rfl h0 h2 (tP h1)⟩
theorem NG:a=b→b<3→a<3:=goN [a,b] (n1 x0 c3) [n2 x0 x1,n1 x1 c3] [1,1,1] rfl
theorem NH:a<100→b<100→a+(b+1)+1<1000:=goN [a,b] (n1 (p (p x0 (p x1 c1)) c1) (.n 1000)) [n1 x0 (.n 100),n1 x1 (.n 100)] [1,1,1] rfl
theorem NI:i=(a:Int)→0<a→i≠0:=fun h0 h1=>fun s0=>no [a] [i] [z2 y0 x0,n1 c0 x0,z2 y0 c0] [-1,1,1] rfl h0 h1 s0
theorem NJ:i=(a:Int)→a<6→i<1000000:=go [a] [i] (z1 y0 (.n 1000000)) [z2 y0 x0,n1 x0 c6] [1,1,1] rfl
theorem NK:i=(a:Int)→a<4→i<1000000:=go [a] [i] (z1 y0 (.n 1000000)) [z2 y0 x0,n1 x0 c4] [1,1,1] rfl
theorem NL:i=(a:Int)→a<3→i<1000000:=go [a] [i] (z1 y0 (.n 1000000)) [z2 y0 x0,n1 x0 c3] [1,1,1] rfl
theorem NN:a+b<100→1+a<1000000:=goN [a,b] (n1 (p c1 x0) (.n 1000000)) [n1 (p x0 x1) (.n 100)] [1,1] rfl
theorem NO:a+b<100→1+a+b<1000000:=goN [a,b] (n1 (p (p c1 x0) x1) (.n 1000000)) [n1 (p x0 x1) (.n 100)] [1,1] rfl
theorem NP:a+b<100→1+a+b+1<1000000:=goN [a,b] (n1 (p (p (p c1 x0) x1) c1) (.n 1000000)) [n1 (p x0 x1) (.n 100)] [1,1] rfl
theorem NQ:a+b<100→c<100→1+a+b+1+c<1000000:=goN [a,b,c] (n1 (p (p (p (p c1 x0) x1) c1) x2) (.n 1000000)) [n1 (p x0 x1) (.n 100),n1 x2 (.n 100)] [1,1,1] rfl
theorem NR:a+b<100→c<100→1+a+b+1+c+1<1000000:=goN [a,b,c] (n1 (p (p (p (p (p c1 x0) x1) c1) x2) c1) (.n 1000000)) [n1 (p x0 x1) (.n 100),n1 x2 (.n 100)] [1,1,1] rfl
theorem NS:a<50→a<100:=goN [a] (n1 x0 (.n 100)) [n1 x0 (.n 50)] [1,1] rfl
theorem NT:a<b→c=b∧c+d≤e→a<c:=fun h0 h1=>goN [a,b,c] (n1 x0 x2) [n1 x0 x1,n2 x2 x1] [1,1,-1] rfl h0 h1.1
theorem NU:a<50→b≤a→b<1000:=goN [a,b] (n1 x1 (.n 1000)) [n1 x0 (.n 50),n0 x1 x0] [1,1,1] rfl
theorem NV:a=b∧a+c≤d→e<a→b-1+(c+1)≤d:=fun h0 h1=>goN [a,b,c,d,b-1] (n0 (p x4 (p x2 c1)) x3) [n2 x0 x1,n0 (p x0 x2) x3,n2 (p x4 c1) x1] [1,-1,1,1] rfl h0.1 h0.2 (sC (goN [a,b,e] (n0 c1 x1) [n2 x0 x1,n1 x2 x0] [1,1,1] rfl h0.1 h1))
theorem NW:a≠b→b<a+1→b<a:=fun h0 h1=>(Nat.lt_or_gt_of_ne h0).elim (fun s0=>goN [b,a] (n1 x0 x1) [n1 x0 (p x1 c1),n1 x1 x0] [1,2,1] rfl h1 s0) (fun s0=>goN [b,a] (n1 x0 x1) [n1 x0 x1] [1,1] rfl s0)
theorem NX:a<40→(a+1)*5<381:=goN [a] (n1 (.r (p x0 c1) 5) (.n 381)) [n1 x0 (.n 40)] [1,5] rfl
theorem Hg:a<40→a<90:=goN [a] (n1 x0 (.n 90)) [n1 x0 (.n 40)] [1,1] rfl
theorem NY:a≤a+5:=goN [a] (n0 x0 (p x0 c5)) [] [1] rfl
theorem NZ:a≤63→b=a→b≤16777216:=goN [a,b] (n0 x1 (.n 16777216)) [n0 x0 (.n 63),n2 x1 x0] [1,1,1] rfl
theorem N1:a<1000→a+1≤16777216:=goN [a] (n0 (p x0 c1) (.n 16777216)) [n1 x0 (.n 1000)] [1,1] rfl
theorem A9:0≤i→0≤i+1:=go [] [i] (z0 c0 (p y0 c1)) [z0 c0 y0] [1,1] rfl
theorem N2:a-i.toNat=b+(c+1)→i≤(a:Int):=fun h0=>(lT a i.toNat).elim (fun s1=>False.elim (dQ [a-i.toNat,b,c] [n2 x0 (p x1 (p x2 c1)),n2 x0 c0] [-1,1] rfl h0 (sZ s1))) (fun s1=>go [i.toNat,a] [i] (z0 y0 x1) [n0 x0 x1,z0 y0 x0] [1,1,1] rfl s1 (tL i))
theorem Hh:a<900000→a-i.toNat=b+(c+1)+1→i+1<1000000:=fun h0 h1=>(lT a i.toNat).elim (fun s1=>False.elim (dQ [a,a-i.toNat,b,c] [n1 x0 (.n 900000),n2 x1 (p (p x2 (p x3 c1)) c1),n2 x1 c0] [99,-44549951,44549951] rfl h0 h1 (sZ s1))) (fun s1=>go [a,a-i.toNat,i.toNat] [i] (z1 (p y0 c1) (.n 1000000)) [n1 x0 (.n 900000),n2 (p x1 x2) x0,z0 y0 x2] [1,1,1,1] rfl h0 (sC s1) (tL i))
theorem Ba:0≤i→0≤i+(a:Int):=go [a] [i] (z0 c0 (p y0 x0)) [z0 c0 y0] [1,1] rfl
theorem N3:0≤i→0≤i+1+(a:Int):=go [a] [i] (z0 c0 (p (p y0 c1) x0)) [z0 c0 y0] [1,1] rfl
theorem Hi:a<900000→a-i.toNat=b+(c+1)→i+(b:Int)<1000000:=fun h0 h1=>(lT a i.toNat).elim (fun s1=>False.elim (dQ [a,a-i.toNat,b,c] [n1 x0 (.n 900000),n2 x1 (p x2 (p x3 c1)),n2 x1 c0] [100,-89999901,89999901] rfl h0 h1 (sZ s1))) (fun s1=>go [a,a-i.toNat,b,c,i.toNat] [i] (z1 (p y0 x2) (.n 1000000)) [n1 x0 (.n 900000),n2 x1 (p x2 (p x3 c1)),n2 (p x1 x4) x0,z0 y0 x4] [1,1,-1,1,1] rfl h0 h1 (sC s1) (tL i))
theorem N4:a<900000→a-i.toNat=b+(c+1)+1→i+1+(b:Int)<1000000:=fun h0 h1=>(lT a i.toNat).elim (fun s1=>False.elim (dQ [a,a-i.toNat,b,c] [n1 x0 (.n 900000),n2 x1 (p (p x2 (p x3 c1)) c1),n2 x1 c0] [99,-44549951,44549951] rfl h0 h1 (sZ s1))) (fun s1=>go [a,a-i.toNat,b,c,i.toNat] [i] (z1 (p (p y0 c1) x2) (.n 1000000)) [n1 x0 (.n 900000),n2 x1 (p (p x2 (p x3 c1)) c1),n2 (p x1 x4) x0,z0 y0 x4] [1,1,-1,1,1] rfl h0 h1 (sC s1) (tL i))
theorem Bb:0≤i→(i+1).toNat=i.toNat+1:=fun h0=>eN [(i+1).toNat,i.toNat] [i] x0 (p x1 c1) [z0 (p y0 c1) x0,z0 y0 x1,z2 x0 (p y0 c1),z2 x1 y0] [1,0,1,1,0] [1,1,0,0,1] rfl (tL (i+1)) (tL i) (tP (go [] [i] (z0 c0 (p y0 c1)) [z0 c0 y0] [1,1] rfl h0)) (tP h0)
theorem N5:a<900000→a-i.toNat=b+1+(c+1)→i+1<1000000:=fun h0 h1=>(lT a i.toNat).elim (fun s1=>False.elim (dQ [a,a-i.toNat,b,c] [n1 x0 (.n 900000),n2 x1 (p (p x2 c1) (p x3 c1)),n2 x1 c0] [99,-44549951,44549951] rfl h0 h1 (sZ s1))) (fun s1=>go [a,a-i.toNat,i.toNat] [i] (z1 (p y0 c1) (.n 1000000)) [n1 x0 (.n 900000),n2 (p x1 x2) x0,z0 y0 x2] [1,1,1,1] rfl h0 (sC s1) (tL i))
theorem Bc:0≤i→(i+(a:Int)).toNat=i.toNat+a:=fun h0=>eN [a,(i+(a:Int)).toNat,i.toNat] [i] x1 (p x2 x0) [z0 (p y0 x0) x1,z0 y0 x2,z2 x1 (p y0 x0),z2 x2 y0] [1,0,1,1,0] [1,1,0,0,1] rfl (tL (i+(a:Int))) (tL i) (tP (go [a] [i] (z0 c0 (p y0 x0)) [z0 c0 y0] [1,1] rfl h0)) (tP h0)
theorem N6:0≤i→(i+1+(a:Int)).toNat=(i+1).toNat+a:=fun h0=>eN [a,(i+1+(a:Int)).toNat,(i+1).toNat] [i] x1 (p x2 x0) [z0 (p (p y0 c1) x0) x1,z0 (p y0 c1) x2,z2 x1 (p (p y0 c1) x0),z2 x2 (p y0 c1)] [1,0,1,1,0] [1,1,0,0,1] rfl (tL (i+1+(a:Int))) (tL (i+1)) (tP (go [a] [i] (z0 c0 (p (p y0 c1) x0)) [z0 c0 y0] [1,1] rfl h0)) (tP (go [] [i] (z0 c0 (p y0 c1)) [z0 c0 y0] [1,1] rfl h0))
theorem N7:i+1+(a:Int)=i+((a:Int)+1):=eZ [a] [i] (p (p y0 c1) x0) (p y0 (p x0 c1)) [] [1] [1] rfl
theorem N8:a+1+b≤80→a+1<90:=goN [a,b] (n1 (p x0 c1) (.n 90)) [n0 (p (p x0 c1) x1) (.n 80)] [1,1] rfl
theorem N9:a+1+b≤80→b<900:=goN [a,b] (n1 x1 (.n 900)) [n0 (p (p x0 c1) x1) (.n 80)] [1,1] rfl
theorem Oa:a+1+b≤80→a+1=c+1→d≤b+1→c+d≤80:=goN [a,b,c,d] (n0 (p x2 x3) (.n 80)) [n0 (p (p x0 c1) x1) (.n 80),n2 (p x0 c1) (p x2 c1),n0 x3 (p x1 c1)] [1,1,-1,1] rfl
theorem Ob:a+1<b+1→a+1=c+1→c<b:=goN [a,b,c] (n1 x2 x1) [n1 (p x0 c1) (p x1 c1),n2 (p x0 c1) (p x2 c1)] [1,1,-1] rfl
theorem Oc:a+(b+1)<80→a<90:=goN [a,b] (n1 x0 (.n 90)) [n1 (p x0 (p x1 c1)) (.n 80)] [1,1] rfl
theorem Od:a<8000→a<900000:=goN [a] (n1 x0 (.n 900000)) [n1 x0 (.n 8000)] [1,1] rfl
theorem Oe:a≤7→0+a<80:=goN [a] (n1 (p c0 x0) (.n 80)) [n0 x0 c7] [1,1] rfl
theorem Of:a=0+b→b≤7→a+0≤80:=goN [a,b] (n0 (p x0 c0) (.n 80)) [n2 x0 (p c0 x1),n0 x1 c7] [1,1,1] rfl
theorem Og:a=0+b→b≤7→a<100:=goN [a,b] (n1 x0 (.n 100)) [n2 x0 (p c0 x1),n0 x1 c7] [1,1,1] rfl
theorem Oh:a+1≤b→a≤b:=goN [a,b] (n0 x0 x1) [n0 (p x0 c1) x1] [1,1] rfl
theorem Oi:a≠0→-1<(a:Int)-1:=fun h0=>goN [a] (z1 (.g c1) (q x0 c1)) [n1 c0 x0] [1,1] rfl (Nat.pos_of_ne_zero h0)
theorem Oj:a≤b-(c-1)→a+1≤b+1:=fun h0=>goN [a,b-(c-1),b] (n0 (p x0 c1) (p x2 c1)) [n0 x0 x1,n0 x1 x2] [1,1,1] rfl h0 (sL b (c-1))
theorem Ol:a≤b→a-(7-1)≤b:=fun h0=>goN [a,b,a-(7-1)] (n0 x2 x1) [n0 x0 x1,n0 x2 x0] [1,1,1] rfl h0 (sL a (7-1))
theorem Om:a<b→max 0 (min (a:Int) (b:Int))=(a:Int):=fun h0=>(lZ (a:Int) (b:Int)).elim (fun s2=>(lZ 0 (min (a:Int) (b:Int))).elim (fun s4=>eZ [a] [min (a:Int) (b:Int),max 0 (min (a:Int) (b:Int))] y1 x0 [z2 y0 x0,z2 y1 y0] [1,1,1] [1,-1,-1] rfl (Int.min_eq_left s2) (Int.max_eq_right s4)) (fun s4=>eZ [a] [min (a:Int) (b:Int),max 0 (min (a:Int) (b:Int))] y1 x0 [z2 y0 x0,z2 y1 c0,z0 y0 y1] [1,0,1,0] [1,-1,0,1] rfl (Int.min_eq_left s2) (Int.max_eq_left s4) (Int.le_max_right 0 (min (a:Int) (b:Int))))) (fun s2=>False.elim (dQ [a,b] [n1 x0 x1,z0 x1 x0] [1,1] rfl h0 s2))
theorem Oo:(((a:Int)-1-(-1)-(-1)-1)/1).toNat=a:=eN [a,(((a:Int)-1-(-1)-(-1)-1)/1).toNat] [((a:Int)-1-(-1)-(-1)-1)/1] x1 x0 [z0 (.m 1 y0) (q (q (q (q x0 c1) (.g c1)) (.g c1)) c1),z1 (q (q (q (q x0 c1) (.g c1)) (.g c1)) c1) (p (.m 1 y0) c1),z0 y0 x1,z2 x1 y0] [1,1,0,0,1] [1,0,1,1,0] rfl (dz 1 ((a:Int)-1-(-1)-(-1)-1) rfl).1 (dz 1 ((a:Int)-1-(-1)-(-1)-1) rfl).2 (tL (((a:Int)-1-(-1)-(-1)-1)/1)) (tP (go [a] [((a:Int)-1-(-1)-(-1)-1)/1] (z0 c0 y0) [z1 (q (q (q (q x0 c1) (.g c1)) (.g c1)) c1) (p (.m 1 y0) c1)] [1,1] rfl (dz 1 ((a:Int)-1-(-1)-(-1)-1) rfl).2))
theorem Oq:a<b→(a:Int)<(b:Int):=goN [a,b] (z1 x0 x1) [n1 x0 x1] [1,1] rfl
theorem Hj:a+1≤b→a<b:=goN [a,b] (n1 x0 x1) [n0 (p x0 c1) x1] [1,1] rfl
theorem Ot:a+1≤b→b-1-a<b:=fun h0=>goN [b-1,b,b-1-a,a] (n1 x2 x1) [n2 (p x0 c1) x1,n2 (p x2 x3) x0] [1,1,1] rfl (sC (goN [a,b] (n0 c1 x1) [n0 (p x0 c1) x1] [1,1] rfl h0)) (sC (goN [a,b,b-1] (n0 x0 x2) [n0 (p x0 c1) x1,n0 x1 (p x2 c1)] [1,1,1] rfl h0 (sN b 1)))
theorem Hl:a≤16777216→a-b≤16777216:=fun h0=>goN [a,a-b] (n0 x1 (.n 16777216)) [n0 x0 (.n 16777216),n0 x1 x0] [1,1,1] rfl h0 (sL a b)
theorem Ou:a<min b c-min d c→min d c+a<c:=fun h0=>(lT (min b c) (min d c)).elim (fun s2=>goN [a,min b c-min d c,min d c,c] (n1 (p x2 x0) x3) [n1 x0 x1,n2 x1 c0,n0 x2 x3] [1,1,1,1] rfl h0 (sZ s2) (Nat.min_le_right d c)) (fun s2=>goN [a,min b c-min d c,min d c,min b c,c] (n1 (p x2 x0) x4) [n1 x0 x1,n2 (p x1 x2) x3,n0 x3 x4] [1,1,1,1] rfl h0 (sC s2) (Nat.min_le_right b c))
theorem Ov:(((a:Int)-(b:Int)+7-1)/7).toNat=(a-b+6)/7:=(lZ 0 (((a:Int)-(b:Int)+7-1)/7)).elim (fun s2=>(lT a b).elim (fun s4=>eN [(((a:Int)-(b:Int)+7-1)/7).toNat,a,b,a-b,(a-b+6)/7] [((a:Int)-(b:Int)+7-1)/7] x0 x4 [z2 x0 y0,n0 x1 x2,n2 x3 c0,z0 (.m 7 y0) (q (p (q x1 x2) c7) c1),n0 (.m 7 x4) (p x3 c6)] [7,7,1,0,1,0] [7,0,0,1,0,1] rfl (tP s2) s4 (sZ s4) (dz 7 ((a:Int)-(b:Int)+7-1) rfl).1 (Nat.mul_div_le (a-b+6) 7)) (fun s4=>eN [(((a:Int)-(b:Int)+7-1)/7).toNat,a-b,b,a,(a-b+6)/7] [((a:Int)-(b:Int)+7-1)/7] x0 x4 [z2 x0 y0,n2 (p x1 x2) x3,z0 (.m 7 y0) (q (p (q x3 x2) c7) c1),z1 (q (p (q x3 x2) c7) c1) (p (.m 7 y0) c7),n0 (.m 7 x4) (p x1 c6),n1 (p x1 c6) (p (.m 7 x4) c7)] [7,7,-1,1,0,0,1] [7,-7,1,0,1,1,0] rfl (tP s2) (sC s4) (dz 7 ((a:Int)-(b:Int)+7-1) rfl).1 (dz 7 ((a:Int)-(b:Int)+7-1) rfl).2 (Nat.mul_div_le (a-b+6) 7) (dv 7 (a-b+6) rfl))) (fun s2=>(lT a b).elim (fun s6=>gY [(((a:Int)-(b:Int)+7-1)/7).toNat,a-b,(a-b+6)/7] x0 x2 [n2 x0 c0,n2 x1 c0,n0 (.m 7 x2) (p x1 c6)] [1,1,0,0] [7,0,1,1] rfl (tQ s2) (sZ s6) (Nat.mul_div_le (a-b+6) 7)) (fun s6=>eN [(((a:Int)-(b:Int)+7-1)/7).toNat,a-b,b,a,(a-b+6)/7] [((a:Int)-(b:Int)+7-1)/7] x0 x4 [z0 y0 c0,n2 x0 c0,n2 (p x1 x2) x3,z1 (q (p (q x3 x2) c7) c1) (p (.m 7 y0) c7),n0 (.m 7 x4) (p x1 c6)] [1,0,1,0,0,0] [7,7,0,1,1,1] rfl s2 (tQ s2) (sC s6) (dz 7 ((a:Int)-(b:Int)+7-1) rfl).2 (Nat.mul_div_le (a-b+6) 7)))
theorem Ow:((a:Int)+7*(b:Int)).toNat=a+7*b:=gY [a,b,((a:Int)+7*(b:Int)).toNat] x2 (p x0 (.m 7 x1)) [z0 (p x0 (.m 7 x1)) x2,z2 x2 (p x0 (.m 7 x1))] [1,0,1] [1,1,0] rfl (tL ((a:Int)+7*(b:Int))) (tP (goN [a,b] (z0 c0 (p x0 (.m 7 x1))) [] [1] rfl))
theorem Ox:¬(a<b)→max 0 (min (a:Int) (b:Int))=(b:Int):=fun h0=>(lZ (a:Int) (b:Int)).elim (fun s2=>(lZ 0 (min (a:Int) (b:Int))).elim (fun s4=>eZ [a,b] [min (a:Int) (b:Int),max 0 (min (a:Int) (b:Int))] y1 x1 [n3 x0 x1,z2 y0 x0,z2 y1 y0,z0 y0 x1] [1,0,0,1,1] [1,1,-1,-1,0] rfl h0 (Int.min_eq_left s2) (Int.max_eq_right s4) (Int.min_le_right (a:Int) (b:Int))) (fun s4=>eZ [a,b] [min (a:Int) (b:Int),max 0 (min (a:Int) (b:Int))] y1 x1 [n3 x0 x1,z2 y0 x0,z2 y1 c0,z0 y0 y1] [1,0,0,1,0] [1,1,-1,0,1] rfl h0 (Int.min_eq_left s2) (Int.max_eq_left s4) (Int.le_max_right 0 (min (a:Int) (b:Int))))) (fun s2=>(lZ 0 (min (a:Int) (b:Int))).elim (fun s6=>eZ [b] [min (a:Int) (b:Int),max 0 (min (a:Int) (b:Int))] y1 x0 [z2 y0 x0,z2 y1 y0] [1,1,1] [1,-1,-1] rfl (Int.min_eq_right s2) (Int.max_eq_right s6)) (fun s6=>eZ [b] [min (a:Int) (b:Int),max 0 (min (a:Int) (b:Int))] y1 x0 [z2 y0 x0,z2 y1 c0,z0 y0 y1] [1,0,1,0] [1,-1,0,1] rfl (Int.min_eq_right s2) (Int.max_eq_left s6) (Int.le_max_right 0 (min (a:Int) (b:Int)))))
theorem Oz:¬((a:Int)<(a:Int)):=fun s0=>dQ [a] [z1 x0 x0] [1] rfl s0
theorem OA:max 0 (min (a:Int) (b:Int))=(b:Int)→b≤a:=fun h0=>(lZ 0 (min (a:Int) (b:Int))).elim (fun s1=>go [b,a] [max 0 (min (a:Int) (b:Int)),min (a:Int) (b:Int)] (n0 x0 x1) [z2 y0 x0,z2 y0 y1,z0 y1 x1] [1,-1,1,1] rfl h0 (Int.max_eq_right s1) (Int.min_le_left (a:Int) (b:Int))) (fun s1=>go [b,a] [max 0 (min (a:Int) (b:Int))] (n0 x0 x1) [z2 y0 x0,z2 y0 c0] [1,-1,1] rfl h0 (Int.max_eq_left s1))
theorem OB:1≤a∧a≤b→c=b→a≤c:=fun h0 h1=>goN [a,b,c] (n0 x0 x2) [n0 x0 x1,n2 x2 x1] [1,1,-1] rfl h0.2 h1
theorem OC:a=b→a=c→b=d→c=d:=gY [a,b,c,d] x2 x3 [n2 x0 x1,n2 x0 x2,n2 x1 x3] [1,1,-1,1] [1,-1,1,-1] rfl
theorem OD:a=b→c<b→c<a:=goN [a,b,c] (n1 x2 x0) [n2 x0 x1,n1 x2 x1] [1,-1,1] rfl
theorem OE:(a:Int)+1≠0:=fun s0=>dQ [a] [z2 (p x0 c1) c0] [1] rfl s0
theorem OF:i.toNat<7→(i.toNat:Int)<1000000:=goN [i.toNat] (z1 x0 (.n 1000000)) [n1 x0 c7] [1,1] rfl
theorem OG:i<(a:Int)→a<100→i<1000:=go [a] [i] (z1 y0 (.n 1000)) [z1 y0 x0,n1 x0 (.n 100)] [1,1,1] rfl
theorem OH:i≤(i.toNat:Int):=go [i.toNat] [i] (z0 y0 x0) [z0 y0 x0] [1,1] rfl (tL i)
theorem OI:i<(a:Int)→a<100→100≤b→i.toNat<b:=fun h0 h1 h2=>(lZ 0 i).elim (fun s0=>go [a,b,i.toNat] [i] (n1 x2 x1) [z1 y0 x0,n1 x0 (.n 100),n0 (.n 100) x1,z2 x2 y0] [50,50,51,50,50] rfl h0 h1 h2 (tP s0)) (fun s0=>goN [b,i.toNat] (n1 x1 x0) [n0 (.n 100) x0,n2 x1 c0] [1,1,1] rfl h2 (tQ s0))
theorem OJ:a<90→a+1≤16777216:=goN [a] (n0 (p x0 c1) (.n 16777216)) [n1 x0 (.n 90)] [1,1] rfl
theorem OL:i=(a:Int)→i<((a+1:Nat):Int):=go [a] [i] (z1 y0 (p x0 c1)) [z2 y0 x0] [1,1] rfl
theorem OM:i<j→j≤i+((0:Nat):Int)→False:=no [] [i,j] [z1 y0 y1,z0 y1 (p y0 c0)] [1,1] rfl
theorem ON:0≤i→j=(a:Int)→2*i+1<j→2*i.toNat+1<a:=fun h0 h1 h2=>go [a,i.toNat] [j,i] (n1 (p (.m 2 x1) c1) x0) [z2 y0 x0,z1 (p (.m 2 y1) c1) y0,z2 x1 y1] [1,1,1,2] rfl h1 h2 (tP h0)
theorem Ho:0≤i→(2*i+1).toNat=2*i.toNat+1:=fun h0=>eN [(2*i+1).toNat,i.toNat] [i] x0 (p (.m 2 x1) c1) [z0 (p (.m 2 y0) c1) x0,z0 y0 x1,z2 x0 (p (.m 2 y0) c1),z2 x1 y0] [1,0,2,1,0] [1,1,0,0,2] rfl (tL (2*i+1)) (tL i) (tP (go [] [i] (z0 c0 (p (.m 2 y0) c1)) [z0 c0 y0] [1,2] rfl h0)) (tP h0)
theorem Hq:0≤i→0≤2*i+1:=go [] [i] (z0 c0 (p (.m 2 y0) c1)) [z0 c0 y0] [1,2] rfl
theorem OO:a<100→2*i.toNat+1<a→2*i+1<1000:=fun h0 h1=>go [a,i.toNat] [i] (z1 (p (.m 2 y0) c1) (.n 1000)) [n1 x0 (.n 100),n1 (p (.m 2 x1) c1) x0,z0 y0 x1] [1,1,1,2] rfl h0 h1 (tL i)
theorem OP:i=(a:Int)→a<100→j<i→j<1000:=go [a] [i,j] (z1 y1 (.n 1000)) [z2 y0 x0,n1 x0 (.n 100),z1 y1 y0] [1,1,1,1] rfl
theorem OQ:2*i.toNat+1<a→i<(a:Int):=fun h0=>go [i.toNat,a] [i] (z1 y0 x1) [n1 (p (.m 2 x0) c1) x1,z0 y0 x0] [2,1,2] rfl h0 (tL i)
theorem OR:i≤j+((a+1:Nat):Int)→j<k→i≤k+(a:Int):=go [a] [i,j,k] (z0 y0 (p y2 x0)) [z0 y0 (p y1 (p x0 c1)),z1 y1 y2] [1,1,1] rfl
theorem OS:0≤i→j=(a:Int)→2*i+1+1<j→2*i.toNat+2<a:=fun h0 h1 h2=>go [a,i.toNat] [j,i] (n1 (p (.m 2 x1) c2) x0) [z2 y0 x0,z1 (p (p (.m 2 y1) c1) c1) y0,z2 x1 y1] [1,1,1,2] rfl h1 h2 (tP h0)
theorem Hs:0≤i→0≤2*i+1+1:=go [] [i] (z0 c0 (p (p (.m 2 y0) c1) c1)) [z0 c0 y0] [1,2] rfl
theorem OT:a<100→2*i.toNat+2<a→2*i+1+1<1000:=fun h0 h1=>go [a,i.toNat] [i] (z1 (p (p (.m 2 y0) c1) c1) (.n 1000)) [n1 x0 (.n 100),n1 (p (.m 2 x1) c2) x0,z0 y0 x1] [1,1,1,2] rfl h0 h1 (tL i)
theorem OU:0≤i→i<2*i+1:=go [] [i] (z1 y0 (p (.m 2 y0) c1)) [z0 c0 y0] [1,1] rfl
theorem OV:0≤i→i<2*i+1+1:=go [] [i] (z1 y0 (p (p (.m 2 y0) c1) c1)) [z0 c0 y0] [1,1] rfl
theorem OW:i=(a:Int)→¬(2*j+1+1<i)→a≤2*j.toNat+2:=fun h0 h1=>go [a,j.toNat] [i,j] (n0 x0 (p (.m 2 x1) c2)) [z2 y0 x0,z3 (p (p (.m 2 y1) c1) c1) y0,z0 y1 x1] [1,-1,1,2] rfl h0 h1 (tL j)
theorem OX:i=(a:Int)→2*j.toNat+1<a→¬(2*j+1+1<i)→0≤2*j+1:=go [a,j.toNat] [i,j] (z0 c0 (p (.m 2 y1) c1)) [z2 y0 x0,n1 (p (.m 2 x1) c1) x0,z3 (p (p (.m 2 y1) c1) c1) y0] [100,-100,1,100] rfl
theorem OY:i=(a:Int)→2*j.toNat+1<a→¬(2*j+1+1<i)→j<2*j+1:=go [a,j.toNat] [i,j] (z1 y1 (p (.m 2 y1) c1)) [z2 y0 x0,n1 (p (.m 2 x1) c1) x0,z3 (p (p (.m 2 y1) c1) c1) y0] [100,-50,1,50] rfl
theorem OZ:i=(a:Int)→2*j.toNat+1<a→¬(2*j+1+1<i)→(2*j+1).toNat=2*j.toNat+1:=fun h0 h1 h2=>eN [j.toNat,(2*j+1).toNat] [j] x1 (p (.m 2 x0) c1) [z0 y0 x0,z0 (p (.m 2 y0) c1) x1,z2 x0 y0,z2 x1 (p (.m 2 y0) c1)] [1,2,0,0,1] [1,0,1,2,0] rfl (tL j) (tL (2*j+1)) (tP (go [a,j.toNat] [i,j] (z0 c0 y1) [z2 y0 x0,n1 (p (.m 2 x1) c1) x0,z3 (p (p (.m 2 y1) c1) c1) y0] [2,-1,1,1] rfl h0 h1 h2)) (tP (go [a,j.toNat] [i,j] (z0 c0 (p (.m 2 y1) c1)) [z2 y0 x0,n1 (p (.m 2 x1) c1) x0,z3 (p (p (.m 2 y1) c1) c1) y0] [2,-2,1,2] rfl h0 h1 h2))
theorem O0:i=(a:Int)→¬(2*j+1<i)→¬(2*j.toNat+1<a):=fun h0 h1=>fun s0=>no [a,j.toNat] [i,j] [z2 y0 x0,z3 (p (.m 2 y1) c1) y0,n1 (p (.m 2 x1) c1) x0,z0 y1 x1] [-1,1,1,2] rfl h0 h1 s0 (tL j)
theorem O1:a+2*b=c+d→(a:Int)=(d:Int)+(c:Int)-2*(b:Int):=eZ [a,b,c,d] [] x0 (q (p x3 x2) (.m 2 x1)) [n2 (p x0 (.m 2 x1)) (p x2 x3)] [1,1] [1,-1] rfl
theorem Bd:a<7→a≤6:=goN [a] (n0 x0 c6) [n1 x0 c7] [1,1] rfl
theorem Ht:a+1≤b+1→a≤b:=goN [a,b] (n0 x0 x1) [n0 (p x0 c1) (p x1 c1)] [1,1] rfl
theorem O7:a<b→b=b-1+1:=fun h0=>gY [b,b-1] x0 (p x1 c1) [n0 x0 (p x1 c1),n2 (p x1 c1) x0] [1,1,0] [1,0,1] rfl (sN b 1) (sC (goN [a,b] (n0 c1 x1) [n1 x0 x1] [1,1] rfl h0))
theorem O8:a≤b→a+1≤b+1:=goN [a,b] (n0 (p x0 c1) (p x1 c1)) [n0 x0 x1] [1,1] rfl
theorem Hu:a≤b→0<a→b≠0:=fun h0 h1=>fun s0=>dQ [a,b] [n0 x0 x1,n1 c0 x0,n2 x1 c0] [1,1,1] rfl h0 h1 s0
theorem Hv:a+1≤6→a≤6:=goN [a] (n0 x0 c6) [n0 (p x0 c1) c6] [1,1] rfl
theorem xW:a<b+1→a≤b:=goN [a,b] (n0 x0 x1) [n1 x0 (p x1 c1)] [1,1] rfl
theorem O9:a+1<7→a<6:=goN [a] (n1 x0 c6) [n1 (p x0 c1) c7] [1,1] rfl
theorem Pa:a+1<7→b<a+1→b<7:=goN [a,b] (n1 x1 c7) [n1 (p x0 c1) c7,n1 x1 (p x0 c1)] [1,1,1] rfl
theorem Pb:a<b→c≤d→b≤c→a<d:=goN [a,b,c,d] (n1 x0 x3) [n1 x0 x1,n0 x2 x3,n0 x1 x2] [1,1,1,1] rfl
theorem Be:a+1≤6→a<6:=goN [a] (n1 x0 c6) [n0 (p x0 c1) c6] [1,1] rfl
theorem Pc:a=b→a<b→False:=dQ [a,b] [n2 x0 x1,n1 x0 x1] [-1,1] rfl
theorem Pd:a=b→b<a→False:=dQ [a,b] [n2 x0 x1,n1 x1 x0] [1,1] rfl
theorem Pe:(a:Int)+(b:Int)-2*(c:Int)≤(d:Int)→e=a-d→c≤a∧c≤b→e≤c:=fun h0 h1 h2=>(lT a d).elim (fun s0=>goN [e,a-d,c] (n0 x0 x2) [n2 x0 x1,n2 x1 c0] [1,1,1] rfl h1 (sZ s0)) (fun s0=>goN [a,b,c,d,e,a-d] (n0 x4 x2) [z0 (q (p x0 x1) (.m 2 x2)) x3,n2 x4 x5,n0 x2 x1,n2 (p x5 x3) x0] [1,1,1,1,1] rfl h0 h1 h2.2 (sC s0))
theorem xX:a≤b+1→a≠b+1→a≤b:=fun h0 h1=>(Nat.lt_or_gt_of_ne h1).elim (fun s0=>goN [a,b] (n0 x0 x1) [n1 x0 (p x1 c1)] [1,1] rfl s0) (fun s0=>goN [a,b] (n0 x0 x1) [n0 x0 (p x1 c1),n1 (p x1 c1) x0] [1,2,1] rfl h0 s0)
theorem Pf:a=b→b≤a:=goN [a,b] (n0 x1 x0) [n2 x0 x1] [1,-1] rfl
theorem Pg:a=b-c→a≤d→¬((b:Int)+(d:Int)-2*(e:Int)≤(c:Int))→d≤e→False:=fun h0 h1 h2 h3=>dQ [a,b-c,d,b,e,c] [n2 x0 x1,n0 x0 x2,z4 (q (p x3 x2) (.m 2 x4)) x5,n0 x2 x4,n0 x3 (p x1 x5)] [-1,1,1,2,1] rfl h0 h1 h2 h3 (sN b c)
theorem Ph:a≤b→¬(a≤c)→c≤b:=goN [a,b,c] (n0 x2 x1) [n0 x0 x1,n4 x0 x2] [1,1,1] rfl
theorem Pj:(a:Int)+(b:Int)-2*(c:Int)≤(d:Int)→¬((a:Int)+(e:Int)-2*(f:Int)≤(d:Int))→g≤b∧g≤e→e≤g→c≤f→False:=fun h0 h1 h2 h3 h4=>dQ [a,b,c,d,e,f,g] [z0 (q (p x0 x1) (.m 2 x2)) x3,z4 (q (p x0 x4) (.m 2 x5)) x3,n0 x6 x1,n0 x4 x6,n0 x2 x5] [1,1,1,1,2] rfl h0 h1 h2.1 h3 h4
theorem Hw:a<b→¬(b<a):=fun h0=>fun s0=>dQ [a,b] [n1 x0 x1,n1 x1 x0] [1,1] rfl h0 s0
theorem Hx:a<b→b≠a:=fun h0=>fun s0=>dQ [a,b] [n1 x0 x1,n2 x1 x0] [1,1] rfl h0 s0
theorem Pk:¬(a<b)→¬(b<a)→a=b:=gY [a,b] x0 x1 [n3 x0 x1,n3 x1 x0] [1,0,1] [1,1,0] rfl
theorem Pn:a+a=a*2:=gY [a] (p x0 x0) (.r x0 2) [] [1] [1] rfl
theorem Bf:¬(a<7)→7≤a:=goN [a] (n0 c7 x0) [n3 x0 c7] [1,1] rfl
theorem Pp:a+1+b=a+(b+1):=gY [a,b] (p (p x0 c1) x1) (p x0 (p x1 c1)) [] [1] [1] rfl
theorem Pq:a≤b-1→0<b→a+1≤b:=fun h0 h1=>goN [a,b-1,b] (n0 (p x0 c1) x2) [n0 x0 x1,n2 (p x1 c1) x2] [1,1,1] rfl h0 (sC (goN [b] (n0 c1 x0) [n1 c0 x0] [1,1] rfl h1))
theorem Pr:¬(a<b)→a=b+(a-b):=fun h0=>gY [a,a-b,b] x0 (p x2 x1) [n0 x0 (p x1 x2),n2 (p x1 x2) x0] [1,1,0] [1,0,1] rfl (sN a b) (sC (goN [a,b] (n0 x1 x0) [n3 x0 x1] [1,1] rfl h0))
theorem Pu:a<b+1→a≠b→a<b:=fun h0 h1=>(Nat.lt_or_gt_of_ne h1).elim (fun s0=>goN [a,b] (n1 x0 x1) [n1 x0 x1] [1,1] rfl s0) (fun s0=>goN [a,b] (n1 x0 x1) [n1 x0 (p x1 c1),n1 x1 x0] [1,2,1] rfl h0 s0)
theorem Pw:a+b<a*2→b<a:=goN [a,b] (n1 x1 x0) [n1 (p x0 x1) (.r x0 2)] [1,1] rfl
theorem Py:a≤a+b:=goN [a,b] (n0 x0 (p x0 x1)) [] [1] rfl
theorem Hz:¬(0≤-(a:Int)-1):=fun s0=>dQ [a] [z0 c0 (q (.g x0) c1)] [1] rfl s0
theorem Pz:i=(a:Int)→a<b→b<1000→i<1000000:=go [a,b] [i] (z1 y0 (.n 1000000)) [z2 y0 x0,n1 x0 x1,n1 x1 (.n 1000)] [1,1,1,1] rfl
theorem HA:(-(-(a:Int)-1)-1).toNat=a:=gY [a,(-(-(a:Int)-1)-1).toNat] x1 x0 [z0 (q (.g (q (.g x0) c1)) c1) x1,z2 x1 (q (.g (q (.g x0) c1)) c1)] [1,0,1] [1,1,0] rfl (tL (-(-(a:Int)-1)-1)) (tP (goN [a] (z0 c0 (q (.g (q (.g x0) c1)) c1)) [] [1] rfl))
theorem HB:0<a→0<(a:Int):=goN [a] (z1 c0 x0) [n1 c0 x0] [1,1] rfl
theorem PA:0≤i→i<(a:Int)→a≠0:=fun h0 h1=>fun s0=>no [a] [i] [z0 c0 y0,z1 y0 x0,n2 x0 c0] [1,1,1] rfl h0 h1 s0
theorem PB:0≤i→i<(a:Int)→i.toNat<a:=fun h0 h1=>go [a,i.toNat] [i] (n1 x1 x0) [z1 y0 x0,z2 x1 y0] [1,1,1] rfl h1 (tP h0)
theorem PC:-(-(a:Int)-1)-1=(a:Int):=eZ [a] [] (q (.g (q (.g x0) c1)) c1) x0 [] [1] [1] rfl
theorem PD:0<a∧a<7→0<(a:Int):=fun h0=>goN [a] (z1 c0 x0) [n1 c0 x0] [1,1] rfl h0.1
theorem PF:i=(a:Int)→0<a∧a<7→i≠0:=fun h0 h1=>fun s0=>no [a] [i] [z2 y0 x0,n1 c0 x0,z2 y0 c0] [-1,1,1] rfl h0 h1.1 s0
theorem PG:0<a∧a<7→a≠0:=fun h0=>fun s0=>dQ [a] [n1 c0 x0,n2 x0 c0] [1,1] rfl h0.1 s0
theorem PI:0≤i→i=(i.toNat:Int):=fun h0=>eZ [i.toNat] [i] y0 x0 [z0 y0 x0,z2 x0 y0] [1,1,0] [1,0,1] rfl (tL i) (tP h0)
theorem PJ:i=(a:Int)→a<7→i<1000000:=go [a] [i] (z1 y0 (.n 1000000)) [z2 y0 x0,n1 x0 c7] [1,1,1] rfl
theorem Bg:a≤b→a≤b+1:=goN [a,b] (n0 x0 (p x1 c1)) [n0 x0 x1] [1,1] rfl
theorem PK:1+(a:Int)=(a:Int)+1:=eZ [a] [] (p c1 x0) (p x0 c1) [] [1] [1] rfl
theorem PM:a<b→b-1-a<b:=fun h0=>goN [b-1,b,b-1-a,a] (n1 x2 x1) [n2 (p x0 c1) x1,n2 (p x2 x3) x0] [1,1,1] rfl (sC (goN [a,b] (n0 c1 x1) [n1 x0 x1] [1,1] rfl h0)) (sC (goN [a,b,b-1] (n0 x0 x2) [n1 x0 x1,n0 x1 (p x2 c1)] [1,1,1] rfl h0 (sN b 1)))
theorem PN:a=b+c→a-b=c:=fun h0=>gY [a,b,c,a-b] x3 x2 [n2 x0 (p x1 x2),n0 x0 (p x3 x1),n2 (p x3 x1) x0] [1,1,0,1] [1,-1,1,0] rfl h0 (sN a b) (sC (goN [a,b,c] (n0 x1 x0) [n2 x0 (p x1 x2)] [1,-1] rfl h0))
theorem PO:0+1≤a→a-1+1≤a:=fun h0=>goN [a-1,a] (n0 (p x0 c1) x1) [n2 (p x0 c1) x1] [1,1] rfl (sC (goN [a] (n0 c1 x0) [n0 (p c0 c1) x0] [1,1] rfl h0))
theorem PR:a+b<c→b<c+1-a:=fun h0=>goN [a,b,c,c+1-a] (n1 x1 x3) [n1 (p x0 x1) x2,n0 (p x2 c1) (p x3 x0)] [1,1,1] rfl h0 (sN (c+1) a)
theorem PT:a<b→b-1-(b-1-a)=a:=fun h0=>gY [b-1,b-1-a,a,b-1-(b-1-a)] x3 x2 [n0 x0 (p x1 x2),n0 x0 (p x3 x1),n2 (p x1 x2) x0,n2 (p x3 x1) x0] [1,1,0,0,1] [1,0,1,1,0] rfl (sN (b-1) a) (sN (b-1) (b-1-a)) (sC (goN [a,b,b-1] (n0 x0 x2) [n1 x0 x1,n0 x1 (p x2 c1)] [1,1,1] rfl h0 (sN b 1))) (sC (goN [b-1-a,b-1] (n0 x0 x1) [n0 x0 x1] [1,1] rfl (sL (b-1) a)))
theorem PU:a+1-b=c+(d+1)→c<a+1-b:=goN [a+1-b,c,d] (n1 x1 x0) [n2 x0 (p x1 (p x2 c1))] [1,-1] rfl
theorem PV:a<b→¬(a<b-1-c)→¬(b-1-a<c)→(a:Int)=(b:Int)-1-(c:Int):=fun h0 h1 h2=>eZ [a,b-1-c,b-1-a,c,b,b-1] [] x0 (q (q x4 c1) x3) [n3 x0 x1,n3 x2 x3,n0 x4 (p x5 c1),n0 x5 (p x1 x3),n2 (p x5 c1) x4,n2 (p x2 x0) x5] [1,0,1,0,0,1,1] [1,1,0,1,1,0,0] rfl h1 h2 (sN b 1) (sN (b-1) c) (sC (goN [a,b] (n0 c1 x1) [n1 x0 x1] [1,1] rfl h0)) (sC (goN [a,b,b-1] (n0 x0 x2) [n1 x0 x1,n0 x1 (p x2 c1)] [1,1,1] rfl h0 (sN b 1)))
theorem PW:a+b=c→b=c-a:=fun h0=>gY [a,b,c,c-a] x1 x3 [n2 (p x0 x1) x2,n0 x2 (p x3 x0),n2 (p x3 x0) x2] [1,1,1,0] [1,-1,0,1] rfl h0 (sN c a) (sC (goN [a,b,c] (n0 x0 x2) [n2 (p x0 x1) x2] [1,1] rfl h0))
theorem PX:a≤b→b<a+c→b-a<c:=fun h0 h1=>goN [b,a,c,b-a] (n1 x3 x2) [n1 x0 (p x1 x2),n2 (p x3 x1) x0] [1,1,1] rfl h1 (sC h0)
theorem PY:a≤b→a+(b-a)=b:=fun h0=>gY [b,b-a,a] (p x2 x1) x0 [n0 x0 (p x1 x2),n2 (p x1 x2) x0] [1,0,1] [1,1,0] rfl (sN b a) (sC h0)
theorem PZ:a=b-c→c+d<b→d<a:=fun h0 h1=>goN [a,b-c,c,d,b] (n1 x3 x0) [n2 x0 x1,n1 (p x2 x3) x4,n0 x4 (p x1 x2)] [1,-1,1,1] rfl h0 h1 (sN b c)
theorem P0:a=b-c→c+d<b→e+1-c=a+(f+1)→d<e+1-c:=fun h0 h1 h2=>goN [a,b-c,c,d,b,e+1-c,f] (n1 x3 x5) [n2 x0 x1,n1 (p x2 x3) x4,n2 x5 (p x0 (p x6 c1)),n0 x4 (p x1 x2)] [1,-1,1,-1,1] rfl h0 h1 h2 (sN b c)
theorem P4:¬(a<b+c)→¬(b+c<a)→a=b+c:=gY [a,b,c] x0 (p x1 x2) [n3 x0 (p x1 x2),n3 (p x1 x2) x0] [1,0,1] [1,1,0] rfl
theorem HD:a+1≤a+1:=goN [a] (n0 (p x0 c1) (p x0 c1)) [] [1] rfl
theorem P5:a≤b+a:=goN [a,b] (n0 x0 (p x1 x0)) [] [1] rfl
theorem P6:a<b→b≤c→a<c:=goN [a,b,c] (n1 x0 x2) [n1 x0 x1,n0 x1 x2] [1,1,1] rfl
theorem P7:a<b→b≤c→a+c<c*2:=goN [a,b,c] (n1 (p x0 x2) (.r x2 2)) [n1 x0 x1,n0 x1 x2] [1,1,1] rfl
theorem HE:a<6→a+1<7:=goN [a] (n1 (p x0 c1) c7) [n1 x0 c6] [1,1] rfl
theorem xY:a<6→a+1<1000:=goN [a] (n1 (p x0 c1) (.n 1000)) [n1 x0 c6] [1,1] rfl
theorem P8:i=((a+1:Nat):Int)→0≤i:=go [a] [i] (z0 c0 y0) [z2 y0 (p x0 c1)] [1,-1] rfl
theorem P9:a<6→i=((a+1:Nat):Int)→i<1000000:=go [a] [i] (z1 y0 (.n 1000000)) [n1 x0 c6,z2 y0 (p x0 c1)] [1,1,1] rfl
theorem Qa:i=((a+1:Nat):Int)→i.toNat=a+1:=fun h0=>eN [a,i.toNat] [i] x1 (p x0 c1) [z2 y0 (p x0 c1),z0 y0 x1,z2 x1 y0] [1,1,0,1] [1,-1,1,0] rfl h0 (tL i) (tP (go [a] [i] (z0 c0 y0) [z2 y0 (p x0 c1)] [1,-1] rfl h0))
theorem Qc:a<100→a+1<1000000:=goN [a] (n1 (p x0 c1) (.n 1000000)) [n1 x0 (.n 100)] [1,1] rfl
theorem Qd:a<100→a+(0+1)+min (b+1) (0+1+1+1+1+1+1)<1000000:=fun h0=>goN [a,min (b+1) (0+1+1+1+1+1+1)] (n1 (p (p x0 (p c0 c1)) x1) (.n 1000000)) [n1 x0 (.n 100),n0 x1 (p (p (p (p (p (p c0 c1) c1) c1) c1) c1) c1)] [1,1,1] rfl h0 (Nat.min_le_right (b+1) (0+1+1+1+1+1+1))
theorem Qe:a<6→i=((a+1:Nat):Int)→0≤i∧i<7:=fun h0 h1=>⟨go [a] [i] (z0 c0 y0) [z2 y0 (p x0 c1)] [1,-1] rfl h1,go [a] [i] (z1 y0 c7) [n1 x0 c6,z2 y0 (p x0 c1)] [1,1,1] rfl h0 h1⟩
theorem Qf:min a b-c≤b:=goN [min a b,b,min a b-c] (n0 x2 x1) [n0 x0 x1,n0 x2 x0] [1,1,1] rfl (Nat.min_le_right a b) (sL (min a b) c)
theorem Qg:min a b-c=b→b≠0→c=0:=fun h0 h1=>(lT (min a b) c).elim (fun s1=>False.elim (dQ [min a b-c,b] [n2 x0 x1,n1 c0 x1,n2 x0 c0] [-1,1,1] rfl h0 (Nat.pos_of_ne_zero h1) (sZ s1))) (fun s1=>gY [min a b-c,b,c,min a b] x2 c0 [n2 x0 x1,n2 (p x0 x2) x3,n0 x3 x1] [1,-1,1,1] [1,0,0,0] rfl h0 (sC s1) (Nat.min_le_right a b))
theorem Qh:min a b-c=b→b≤a:=fun h0=>goN [min a b-c,b,min a b,a] (n0 x1 x3) [n2 x0 x1,n0 x2 x3,n0 x0 x2] [1,-1,1,1] rfl h0 (Nat.min_le_left a b) (sL (min a b) c)
theorem Bh:¬(a≤b)→b≤a:=goN [a,b] (n0 x1 x0) [n4 x0 x1] [1,1] rfl
theorem Qi:¬(0≤i)→i<0:=go [] [i] (z1 y0 c0) [z4 c0 y0] [1,1] rfl
theorem Qj:¬(a≤b)→min c b≤a:=fun h0=>goN [a,b,min c b] (n0 x2 x0) [n4 x0 x1,n0 x2 x1] [1,1,1] rfl h0 (Nat.min_le_right c b)
theorem Qk:min a b≤b:=goN [min a b,b] (n0 x0 x1) [n0 x0 x1] [1,1] rfl (Nat.min_le_right a b)
theorem Ql:a=min b c→d≤a→d+(a-d)≤c:=fun h0 h1=>goN [a,min b c,c,a-d,d] (n0 (p x4 x3) x2) [n2 x0 x1,n0 x1 x2,n2 (p x3 x4) x0] [1,1,1,1] rfl h0 (Nat.min_le_right b c) (sC h1)
theorem Qm:¬(a≤b)→b-a=0:=fun h0=>(lT b a).elim (fun s0=>gY [b-a] x0 c0 [n2 x0 c0] [1,1] [1,0] rfl (sZ s0)) (fun s0=>gY [a,b,b-a] x2 c0 [n4 x0 x1,n2 (p x2 x0) x1] [1,1,1] [1,0,0] rfl h0 (sC s0))
theorem Qn:a-b=0→min a c≤b:=fun h0=>goN [a-b,a,b,min a c] (n0 x3 x2) [n2 x0 c0,n0 x1 (p x0 x2),n0 x3 x1] [1,1,1,1] rfl h0 (sN a b) (Nat.min_le_left a c)
theorem Qo:a+20*b+37≤8000→a+1+1+1+1+20*b+20≤8000:=goN [a,b] (n0 (p (p (p (p (p (p x0 c1) c1) c1) c1) (.m 20 x1)) (.n 20)) (.n 8000)) [n0 (p (p x0 (.m 20 x1)) (.n 37)) (.n 8000)] [1,1] rfl
theorem HG:a<a+3:=goN [a] (n1 x0 (p x0 c3)) [] [1] rfl
theorem Qp:a+2<a+3:=goN [a] (n1 (p x0 c2) (p x0 c3)) [] [1] rfl
theorem Qq:a+1<a+3:=goN [a] (n1 (p x0 c1) (p x0 c3)) [] [1] rfl
theorem Bj:7≤a→i<7→i.toNat<a+1:=fun h0 h1=>(lZ 0 i).elim (fun s0=>go [a,i.toNat] [i] (n1 x1 (p x0 c1)) [n0 c7 x0,z1 y0 c7,z2 x1 y0] [7,6,7,7] rfl h0 h1 (tP s0)) (fun s0=>goN [i.toNat,a] (n1 x0 (p x1 c1)) [n2 x0 c0] [1,1] rfl (tQ s0))
theorem Qs:i.toNat+9+1-i.toNat=9+1:=gY [i.toNat,i.toNat+9+1-i.toNat] x1 (p c9 c1) [n0 (p (p x0 c9) c1) (p x1 x0),n2 (p x1 x0) (p (p x0 c9) c1)] [1,0,1] [1,1,0] rfl (sN (i.toNat+9+1) i.toNat) (sC (goN [i.toNat] (n0 x0 (p (p x0 c9) c1)) [] [1] rfl))
theorem Qt:i.toNat+1-i.toNat=0+1:=gY [i.toNat,i.toNat+1-i.toNat] x1 (p c0 c1) [n0 (p x0 c1) (p x1 x0),n2 (p x1 x0) (p x0 c1)] [1,0,1] [1,1,0] rfl (sN (i.toNat+1) i.toNat) (sC (goN [i.toNat] (n0 x0 (p x0 c1)) [] [1] rfl))
theorem Qu:a=b+1→i.toNat<b+1→i.toNat<a:=goN [a,b,i.toNat] (n1 x2 x0) [n2 x0 (p x1 c1),n1 x2 (p x1 c1)] [1,-1,1] rfl
theorem Qv:a≤b+c+(d+e)→f+e+a≤f+(b+c)+(d+e+e):=goN [a,b,c,d,e,f] (n0 (p (p x5 x4) x0) (p (p x5 (p x1 x2)) (p (p x3 x4) x4))) [n0 x0 (p (p x1 x2) (p x3 x4))] [1,1] rfl
theorem Qw:a<1000000→a≤16777216:=goN [a] (n0 x0 (.n 16777216)) [n1 x0 (.n 1000000)] [1,1] rfl
theorem Qx:i≤j→i=k→¬(j<k):=fun h0 h1=>fun s0=>no [] [i,j,k] [z0 y0 y1,z2 y0 y2,z1 y1 y2] [1,-1,1] rfl h0 h1 s0
theorem HH:a≤7→b≤a*1010→b<1000000:=goN [a,b] (n1 x1 (.n 1000000)) [n0 x0 c7,n0 x1 (.r x0 1010)] [1,1010,1] rfl
theorem Qy:i≤j→i=k→¬(k<j)→i=j:=eZ [] [i,j,k] y0 y1 [z0 y0 y1,z2 y0 y2,z3 y2 y1] [1,1,0,0] [1,0,-1,1] rfl
theorem Qz:a<128→i=(a:Int)→i<1000000:=go [a] [i] (z1 y0 (.n 1000000)) [n1 x0 (.n 128),z2 y0 x0] [1,1,1] rfl
theorem QA:i≤j→j=k→¬(k<i):=fun h0 h1=>fun s0=>no [] [i,j,k] [z0 y0 y1,z2 y1 y2,z1 y2 y0] [1,1,1] rfl h0 h1 s0
theorem HJ:a≤b→(a:Int)≤(b:Int):=goN [a,b] (z0 x0 x1) [n0 x0 x1] [1,1] rfl
theorem QB:a≠127→(a:Int)≠127:=fun h0=>fun s0=>(Nat.lt_or_gt_of_ne h0).elim (fun s1=>dQ [a] [z2 x0 (.n 127),n1 x0 (.n 127)] [-1,1] rfl s0 s1) (fun s1=>dQ [a] [z2 x0 (.n 127),n1 (.n 127) x0] [1,1] rfl s0 s1)
theorem QC:i≤j→j=k→¬(i<k)→j=i:=eZ [] [i,j,k] y1 y0 [z0 y0 y1,z2 y1 y2,z3 y0 y2] [1,0,1,1] [1,1,0,0] rfl
theorem HK:0≤(a:Int):=goN [a] (z0 c0 x0) [] [1] rfl
theorem QD:32≤a→0=a→False:=dQ [a] [n0 (.n 32) x0,n2 c0 x0] [1,-1] rfl
theorem QE:32≤a→21≤a*5:=goN [a] (n0 (.n 21) (.r x0 5)) [n0 (.n 32) x0] [1,5] rfl
theorem QF:a<40→a<64:=goN [a] (n1 x0 (.n 64)) [n1 x0 (.n 40)] [1,1] rfl
theorem QG:a<40→a<1000:=goN [a] (n1 x0 (.n 1000)) [n1 x0 (.n 40)] [1,1] rfl
theorem HL:a≤a+2:=goN [a] (n0 x0 (p x0 c2)) [] [1] rfl
theorem QH:a<40→a<128:=goN [a] (n1 x0 (.n 128)) [n1 x0 (.n 40)] [1,1] rfl
theorem QI:a<40→a≤127:=goN [a] (n0 x0 (.n 127)) [n1 x0 (.n 40)] [1,1] rfl
theorem QJ:a≤b→a=c-1→c≤b+1:=fun h0 h1=>goN [a,b,c-1,c] (n0 x3 (p x1 c1)) [n0 x0 x1,n2 x0 x2,n0 x3 (p x2 c1)] [1,1,-1,1] rfl h0 h1 (sN c 1)
theorem QK:a≤7→a<50:=goN [a] (n1 x0 (.n 50)) [n0 x0 c7] [1,1] rfl
theorem QL:a+1<b→a<b:=goN [a,b] (n1 x0 x1) [n1 (p x0 c1) x1] [1,1] rfl
theorem QM:a<b→a≤b:=goN [a,b] (n0 x0 x1) [n1 x0 x1] [1,1] rfl
theorem QN:a+1<9000→a<9000:=goN [a] (n1 x0 (.n 9000)) [n1 (p x0 c1) (.n 9000)] [1,1] rfl
theorem xZ:a<3→a<100:=goN [a] (n1 x0 (.n 100)) [n1 x0 c3] [1,1] rfl
theorem QO:i+(a:Int)+1+(b:Int)=i+((a+(b+1):Nat):Int):=eZ [a,b] [i] (p (p (p y0 x0) c1) x1) (p y0 (p x0 (p x1 c1))) [] [1] [1] rfl
theorem QS:0≤i→a-i.toNat=0→¬(i<(a:Int)):=fun h0 h1=>fun s0=>no [a-i.toNat,a,i.toNat] [i] [n2 x0 c0,z1 y0 x1,n0 x1 (p x0 x2),z2 x2 y0] [1,1,1,1] rfl h1 s0 (sN a i.toNat) (tP h0)
theorem QT:i=j+1+(a:Int)→j<i:=go [a] [i,j] (z1 y1 y0) [z2 y0 (p (p y1 c1) x0)] [1,-1] rfl
theorem QU:a<90→a<900:=goN [a] (n1 x0 (.n 900)) [n1 x0 (.n 90)] [1,1] rfl
theorem QV:(a:Int)+((b:Int)+1+1)=(a:Int)+1+(b:Int)+1:=eZ [a,b] [] (p x0 (p (p x1 c1) c1)) (p (p (p x0 c1) x1) c1) [] [1] [1] rfl
theorem QW:a+(b+1)<900→a<900:=goN [a,b] (n1 x0 (.n 900)) [n1 (p x0 (p x1 c1)) (.n 900)] [1,1] rfl
theorem QX:i=j+(a:Int)→k=i+1+(b:Int)→(c:Int)=(a:Int)+1+(b:Int)+1→j+(c:Int)=k+1:=eZ [a,b,c] [i,j,k] (p y1 x2) (p y2 c1) [z2 y0 (p y1 x0),z2 y2 (p (p y0 c1) x1),z2 x2 (p (p (p x0 c1) x1) c1)] [1,-1,-1,1] [1,1,1,-1] rfl
theorem QY:i<j→j≠i:=fun h0=>fun s0=>no [] [i,j] [z1 y0 y1,z2 y1 y0] [1,1] rfl h0 s0
theorem QZ:a-i.toNat=b+c→0<b→i+(b:Int)≤(a:Int):=fun h0 h1=>(lT a i.toNat).elim (fun s1=>False.elim (dQ [a-i.toNat,b,c] [n2 x0 (p x1 x2),n1 c0 x1,n2 x0 c0] [-1,1,1] rfl h0 h1 (sZ s1))) (fun s1=>go [a-i.toNat,b,c,i.toNat,a] [i] (z0 (p y0 x1) x4) [n2 x0 (p x1 x2),n2 (p x0 x3) x4,z0 y0 x3] [1,-1,1,1] rfl h0 (sC s1) (tL i))
theorem Q0:a-i.toNat=b+c→0<b→i<(a:Int):=fun h0 h1=>(lT a i.toNat).elim (fun s1=>False.elim (dQ [a-i.toNat,b,c] [n2 x0 (p x1 x2),n1 c0 x1,n2 x0 c0] [-1,1,1] rfl h0 h1 (sZ s1))) (fun s1=>go [a-i.toNat,b,c,i.toNat,a] [i] (z1 y0 x4) [n2 x0 (p x1 x2),n1 c0 x1,n0 x3 x4,n2 (p x0 x3) x4,z0 y0 x3] [100,-1,1,99,1,100] rfl h0 h1 s1 (sC s1) (tL i))
theorem Q2:(a:Int)+((b:Int)+((c:Int)+1+1)+1)=(a:Int)+1+(b:Int)+1+(c:Int)+1:=eZ [a,b,c] [] (p x0 (p (p x1 (p (p x2 c1) c1)) c1)) (p (p (p (p (p x0 c1) x1) c1) x2) c1) [] [1] [1] rfl
theorem Q3:i=j+(a:Int)→k=i+1+(b:Int)+1→l=k+(c:Int)→(d:Int)=(a:Int)+1+(b:Int)+1+(c:Int)+1→j+(d:Int)=l+1:=eZ [a,b,c,d] [i,j,k,l] (p y1 x3) (p y3 c1) [z2 y0 (p y1 x0),z2 y2 (p (p (p y0 c1) x1) c1),z2 y3 (p y2 x2),z2 x3 (p (p (p (p (p x0 c1) x1) c1) x2) c1)] [1,-1,-1,-1,1] [1,1,1,1,-1] rfl
theorem Q4:i=j+1+(a:Int)+1→k=i+(b:Int)→(c:Int)=(d:Int)+1+(a:Int)+1+(b:Int)+1→l+(c:Int)=k+1→j-l=(d:Int):=eZ [a,b,c,d] [i,j,k,l] (q y1 y3) x3 [z2 y0 (p (p (p y1 c1) x0) c1),z2 y2 (p y0 x1),z2 x2 (p (p (p (p (p x3 c1) x0) c1) x1) c1),z2 (p y3 x2) (p y2 c1)] [1,-1,-1,1,-1] [1,1,1,-1,1] rfl
theorem Q5:a+1≤a+45:=goN [a] (n0 (p x0 c1) (p x0 (.n 45))) [] [1] rfl
theorem Q6:40+a≤a+45:=goN [a] (n0 (p (.n 40) x0) (p x0 (.n 45))) [] [1] rfl
theorem Q7:a+5+45≤a+57:=goN [a] (n0 (p (p x0 c5) (.n 45)) (p x0 (.n 57))) [] [1] rfl
theorem Q8:32≤a→b=a→c=1→c<b/4:=fun h0 h1 h2=>goN [a,b,c,b/4] (n1 x2 x3) [n0 (.n 32) x0,n2 x1 x0,n2 x2 c1,n1 x1 (p (.m 4 x3) c4)] [86,3,-3,86,3] rfl h0 h1 h2 (dv 4 b rfl)
theorem Q9:a<90→b=a→b-1<1000:=fun h0 h1=>goN [a,b,b-1] (n1 x2 (.n 1000)) [n1 x0 (.n 90),n2 x1 x0,n0 x2 x1] [1,1,1,1] rfl h0 h1 (sL b 1)
theorem Ra:a=1→¬(b<a/8):=fun h0=>fun s0=>dQ [a,b,a/8] [n2 x0 c1,n1 x1 x2,n0 (.m 8 x2) x0] [1,8,1] rfl h0 s0 (Nat.mul_div_le a 8)
theorem Rb:a+1+2≤a+3:=goN [a] (n0 (p (p x0 c1) c2) (p x0 c3)) [] [1] rfl
theorem Rc:a<b→c=b→a<c:=goN [a,b,c] (n1 x0 x2) [n1 x0 x1,n2 x2 x1] [1,1,-1] rfl
theorem Rd:600≤a+600:=goN [a] (n0 (.n 600) (p x0 (.n 600))) [] [1] rfl
theorem Rf:a-b=0→b≤a→b=a:=fun h0 h1=>gY [a-b,b,a] x1 x2 [n2 x0 c0,n0 x1 x2,n0 x2 (p x0 x1)] [1,0,1,0] [1,1,0,1] rfl h0 h1 (sN a b)
theorem Rg:a-b=c+1→b<a:=fun h0=>(lT a b).elim (fun s0=>False.elim (dQ [a-b,c] [n2 x0 (p x1 c1),n2 x0 c0] [-1,1] rfl h0 (sZ s0))) (fun s0=>goN [a-b,c,b,a] (n1 x2 x3) [n2 x0 (p x1 c1),n0 x2 x3,n2 (p x0 x2) x3] [100,-1,99,1] rfl h0 s0 (sC s0))
theorem Rh:a-b=c+1→a-(b+1)=c:=fun h0=>(lT a b).elim (fun s2=>False.elim (dQ [a-b,c] [n2 x0 (p x1 c1),n2 x0 c0] [-1,1] rfl h0 (sZ s2))) (fun s2=>(lT a (b+1)).elim (fun s4=>gY [a-b,c,b,a,a-(b+1)] x4 x1 [n2 x0 (p x1 c1),n2 (p x0 x2) x3,n2 x4 c0,n0 x3 (p x4 (p x2 c1))] [1,0,0,1,0] [1,-1,1,0,1] rfl h0 (sC s2) (sZ s4) (sN a (b+1))) (fun s4=>gY [a-b,c,b,a,a-(b+1)] x4 x1 [n2 x0 (p x1 c1),n2 (p x0 x2) x3,n2 (p x4 (p x2 c1)) x3] [1,1,-1,1] [1,-1,1,-1] rfl h0 (sC s2) (sC s4)))
theorem Ri:a≤7→a<100:=goN [a] (n1 x0 (.n 100)) [n0 x0 c7] [1,1] rfl
theorem Rj:a≤7→b≤7→a+b<40:=goN [a,b] (n1 (p x0 x1) (.n 40)) [n0 x0 c7,n0 x1 c7] [1,1,1] rfl
theorem Rk:a+(b+1)<40→c≤a+1→c+b<40:=goN [a,b,c] (n1 (p x2 x1) (.n 40)) [n1 (p x0 (p x1 c1)) (.n 40),n0 x2 (p x0 c1)] [1,1,1] rfl
theorem HM:a+(b+1)<40→a<50:=goN [a,b] (n1 x0 (.n 50)) [n1 (p x0 (p x1 c1)) (.n 40)] [1,1] rfl
end
end
section
open PySem PySem.W PyProof.Rows PySem.Calls
inductive V where
 |none
 |bool (b:Bool)
 |int (i:Int)
 |str (s:List Nat)
 |ty (n:String)
 |fW (k:Nat)
 |jM (a b:Int)
 |tup (xs:List V)
 |lst (xs:List V)
 |cI (xs:List Int)
 deriving Inhabited
inductive Op where|add|sub|mul|fdiv|mod|shr|pow|bor|band|bxor
 deriving DecidableEq,Inhabited
inductive Cp where|eq|ne|lt|le|gt|ge|isin
 deriving DecidableEq,Inhabited
inductive BI where|len|sum|min|max|range|gj|type|pT
 deriving DecidableEq,Inhabited
inductive MT where|split|join|rfind|rstrip|startswith|endswith|count|index|bP
 deriving DecidableEq,Inhabited
inductive Tg where
 |one (x:Nat)
 |many (xs:List Nat)
 deriving Inhabited
inductive PE where
 |cn (v:V)
 |var (x:Nat)
 |gl (n:Nat)
 |bin (op:Op) (l r:PE)
 |not (e:PE)
 |neg (e:PE)
 |and (l r:PE)
 |or (l r:PE)
 |ite (t a b:PE)
 |cmp (op:Cp) (l r:PE)
 |lst (es:List PE)
 |tup (es:List PE)
 |fk (e:PE)
 |idx (o i:PE)
 |slc (o:PE) (lo hi st:Option PE)
 |call (f:Nat) (args:List PE)
 |ic (f:Nat) (args:List PE) (kws:List (Nat×PE))
 |bi (b:BI) (args:List PE)
 |gk (f:Nat) (e:PE)
 |bZ (m:MT) (o:PE) (args:List PE)
 |comp (elt:PE) (tg:Tg) (it:PE) (ifs:Option PE)
 |cR (x:Nat)
 |cJ (x:Nat)
 |aH (x:Nat) (i:PE)
 |gm (x:Nat) (lo:PE)
 |bad
 deriving Inhabited
inductive PS where
 |asg (x:Nat) (e:PE)
 |bE (x:Nat) (es:List PE)
 |l6 (xs:List Nat) (e:PE)
 |aug (x:Nat) (op:Op) (e:PE)
 |app (x:Nat) (e:PE)
 |zA (x:Nat)
 |lE (y x:Nat)
 |ie (x:Nat) (i e:PE)
 |io (f:Nat) (x:Nat) (args:List PE)
 |D8 (ys:List Nat) (f:Nat) (x:Nat) (lo:PE)
 |fH (t:PE) (a b:List PS)
 |zB (t:PE) (body:List PS)
 |dW (tg:Tg) (it:PE) (body:List PS)
 |eU (i c:Nat) (it:PE) (body:List PS)
 |qP (x:Nat) (elt:PE) (y:Nat) (it:PE)
 |ig (body:List PS)
 |ret (e:PE)
 |brk
 |cont
 |bad
 deriving Inhabited
noncomputable def ck (n:Nat):Bool:=Nat.ble n 16777216
noncomputable def small (i:Int):Bool:=decide (i.natAbs<2147483648)
theorem no {α:Type} {P:Prop} {x:α} (h:none=some x):P:=nomatch h
theorem ob {α β:Type} {P:Prop} {x:Option α} {f:α→Option β} {b:β} (h:x.bind f=some b) (k:∀a,x=some a→f a=some b→P):P:=by
 cases x with
 |none=>cases h
 |some a=>exact k a rfl h
theorem om {α β:Type} {P:β→Prop} {x:Option α} {f:α→β} {b:β} (h:x.map f=some b) (k:∀a,x=some a→P (f a)):P b:=by
 cases x with
 |none=>cases h
 |some a=>cases h;exact k a rfl
theorem oi {β:Type} {P:Prop} {c:Bool} {x:Option β} {b:β} (h:(if c=true then x else none)=some b) (k:c=true→x=some b→P):P:=by
 cases c with
 |false=>cases h
 |true=>exact k rfl h
theorem os {β:Type} {P:β→Prop} {a b:β} (h:some a=some b) (k:P a):P b:=by cases h;exact k
theorem ba {a b:Bool} {P:Prop} (h:(a&&b)=true) (k:a=true→b=true→P):P:=by
 cases a with
 |false=>cases h
 |true=>exact k rfl h
noncomputable def uC {α:Type} (l:List α):Option (α×List α):=match l with
 |[]=>none
 |a::r=>some (a,r)
theorem jP {α:Type} {P:List α→Prop} {l:List α} {q:α×List α} (h:uC l=some q) (k:P (q.1::q.2)):P l:=by
 cases l with
 |nil=>exact no h
 |cons a r=>exact os (P:=fun q:α×List α=>P (q.1::q.2)→P (a::r)) h (fun k=>k) k
theorem nf {P:Prop} (h:false=true):P:=nomatch h
theorem tf {P:Prop} (h:true=false):P:=nomatch h
theorem bq {α:Type} {P:List α→Prop} {l:List α} (h:l.isEmpty=true) (k:P []):P l:=by
 cases l with
 |nil=>exact k
 |cons _ _=>exact nf h
noncomputable def Uk:V→Option Bool
 |.bool b=>some b
 |_=>none
noncomputable def Bk (b:Bool) (v:V):Bool:=match Uk v with
 |some c=>c==b
 |none=>false
noncomputable def Rm:V→Bool
 |.int _=>true
 |.str _=>true
 |_=>false
noncomputable def l7:V→Option Int
 |.int i=>some i
 |_=>none
noncomputable def x8:V→Option (List Nat)
 |.str s=>some s
 |_=>none
noncomputable def x9:V→Option (List V)
 |.lst s=>some s
 |_=>none
noncomputable def DW:V→Option (List V)
 |.tup s=>some s
 |_=>none
noncomputable def LU:V→Option String
 |.ty n=>some n
 |_=>none
noncomputable def Ul:V→Option (List Int)
 |.cI s=>some s
 |_=>none
noncomputable def Rn:List Nat→Option Nat
 |[]=>none
 |c::r=>if r.isEmpty then some c else none
theorem Bl {P:V→Prop} {a:V} {i:Bool} (h:Uk a=some i) (k:P (.bool i)):P a:=by cases a <;>first|exact no h|(cases h;exact k)
theorem cK {P:V→Prop} {a:V} {i:Int} (h:l7 a=some i) (k:P (.int i)):P a:=by cases a <;>first|exact no h|(cases h;exact k)
theorem jw {P:V→Prop} {a:V} {s:List Nat} (h:x8 a=some s) (k:P (.str s)):P a:=by cases a <;>first|exact no h|(cases h;exact k)
theorem fT {P:V→Prop} {a:V} {s:List V} (h:x9 a=some s) (k:P (.lst s)):P a:=by cases a <;>first|exact no h|(cases h;exact k)
theorem Bm {P:V→Prop} {a:V} {s:List V} (h:DW a=some s) (k:P (.tup s)):P a:=by cases a <;>first|exact no h|(cases h;exact k)
theorem ID {P:V→Prop} {a:V} {s:String} (h:LU a=some s) (k:P (.ty s)):P a:=by cases a <;>first|exact no h|(cases h;exact k)
theorem vW {P:V→Prop} {a:V} {s:List Int} (h:Ul a=some s) (k:P (.cI s)):P a:=by cases a <;>first|exact no h|(cases h;exact k)
theorem qQ {P:List Nat→Prop} {s:List Nat} {c:Nat} (h:Rn s=some c) (k:P [c]):P s:=by
 cases s with
 |nil=>cases h
 |cons a r=>cases r <;>cases h;exact k
noncomputable def i2 {α:Type} (a b:V) (f:Int→Int→Option α):Option α:=(l7 a).bind fun x=>(l7 b).bind fun y=>f x y
noncomputable def orS (x y:List Int):Option V:=match x with
 |[]=>none
 |a::r=>match y with
  |[]=>none
  |k::t=>if t.isEmpty&&decide (r.length<6) then some (.cI ((a::r)++[k].filter fun x=>!(a::r).contains x)) else none
noncomputable def VZ (x y:List Int):Option V:= if !x.isEmpty&&!y.isEmpty&&decide ((x.filter fun k=>!y.contains k).length+(y.filter fun k=>!x.contains k).length≤7) then some (.cI ((x.filter fun k=>!y.contains k)++y.filter fun k=>!x.contains k)) else none
noncomputable def Ro (a b:V):Option V:=match a with
 |.int x=>(l7 b).bind fun y=>some (.int (x+y))
 |.str x=>(x8 b).bind fun y=>if ck (x.length+y.length) then some (.str (x++y)) else none
 |.lst x=>(x9 b).bind fun y=>if ck (x.length+y.length) then some (.lst (x++y)) else none
 |_=>none
noncomputable def Rp (a b:V):Option V:=match a with
 |.int x=>(l7 b).bind fun y=>if small x&&small y then some (.int (x*y)) else none
 |.str x=>(Rn x).bind fun c=>(l7 b).bind fun y=>if decide (0≤y)&&ck y.toNat then some (.str (List.replicate y.toNat c)) else none
 |_=>none
noncomputable def D9 (a b:V):Option V:=match a with
 |.int x=>(l7 b).bind fun y=>some (.int (Builtin.bitOr x y))
 |.cI x=>(Ul b).bind fun y=>orS x y
 |_=>none
noncomputable def jx (op:Op) (a b:V):Option V:=match op with
 |.add=>Ro a b
 |.sub=>i2 a b fun a b=>some (.int (a-b))
 |.mul=>Rp a b
 |.fdiv=>i2 a b fun a b=>if small b&&decide (b≠0) then some (.int (a.fdiv b)) else none
 |.mod=>i2 a b fun a b=>if decide (b≠0) then some (.int (a.fmod b)) else none
 |.shr=>i2 a b fun a b=>if decide (b=1)&&decide (0≤a) then some (.int (a/2)) else none
 |.pow=>i2 a b fun a b=>if decide (a=2)&&decide (0≤b)&&decide (b<64) then some (.int (2^b.toNat)) else none
 |.bor=>D9 a b
 |.band=>i2 a b fun a b=>some (.int (Builtin.bitAnd a b))
 |.bxor=>(Ul a).bind fun x=>(Ul b).bind fun y=>VZ x y
noncomputable def jy:V→Option Bool
 |.none=>some false
 |.bool b=>some b
 |.int i=>some (decide (i≠0))
 |.str s=>some !s.isEmpty
 |.tup xs=>some !xs.isEmpty
 |.lst xs=>some !xs.isEmpty
 |_=>none
noncomputable def ltN:List Nat→List Nat→Bool
 |_,[]=>false
 |[],_::_=>true
 |a::r,b::t=>if a<b then true else if a=b then ltN r t else false
noncomputable def jk:List (List Nat)→List (List Nat)→Bool
 |_,[]=>false
 |[],_::_=>true
 |a::r,b::t=>if a=b then jk r t else ltN a b
noncomputable def bJ:List V→Option (List (List Nat))
 |[]=>some []
 |v::r=>(x8 v).bind fun s=>(bJ r).map (s::·)
noncomputable def fX:List V→Option (List Int)
 |[]=>some []
 |v::r=>(l7 v).bind fun s=>(fX r).map (s::·)
noncomputable def aN (a b:Int×List Nat×Int):Bool:= if a.1=b.1 then (if a.2.1=b.2.1 then decide (a.2.2<b.2.2) else ltN a.2.1 b.2.1) else decide (a.1<b.1)
noncomputable def aQ:Nat→Nat→Bool
 |0,c=>c==32||c==9
 |_,c=>(decide (c<32)&&c !=9)||c==127
noncomputable def Rq:List V→Option (Int×List Nat×Int)
 |[a,s,i]=>(l7 a).bind fun a=>(x8 s).bind fun s=>(l7 i).bind fun i=>some (a,s,i)
 |_=>none
noncomputable def Za (a b:V):Option Bool:=match a with
 |.int x=>(l7 b).bind fun y=>some (x==y)
 |.str x=>(x8 b).bind fun y=>some (x==y)
 |.lst x=>(x9 b).bind fun y=>(fX x).bind fun p=>(fX y).bind fun q=>some (p==q)
 |_=>none
noncomputable def Zb (a b:V):Option Bool:=match a with
 |.int x=>(l7 b).bind fun y=>some (x !=y)
 |.str x=>(x8 b).bind fun y=>some (x !=y)
 |_=>none
noncomputable def ltV (a b:V):Option Bool:=match a with
 |.int x=>(l7 b).bind fun y=>some (decide (x<y))
 |.tup x=>(DW b).bind fun y=>(Rq x).bind fun p=>(Rq y).bind fun q=>some (aN p q)
 |_=>none
noncomputable def Zc (a b:V):Option Bool:=match b with
 |.fW k=>(x8 a).bind fun s=>(Rn s).bind fun c=>some (aQ k c)
 |.lst xs=>(x8 a).bind fun s=>(bJ xs).bind fun l=>some (l.contains s)
 |_=>none
noncomputable def o5 (op:Cp) (a b:V):Option Bool:=match op with
 |.eq=>Za a b
 |.ne=>Zb a b
 |.lt=>ltV a b
 |.le=>i2 a b fun a b=>some (decide (a≤b))
 |.gt=>i2 a b fun a b=>some (decide (b<a))
 |.ge=>i2 a b fun a b=>some (decide (b≤a))
 |.isin=>Zc a b
noncomputable def jf (a b:V):Option V:=(l7 b).bind fun i=>match a with
 |.lst xs=>if 0≤i then (if i<9223372036854775808 then xs[i.toNat]? else none) else (if -(xs.length:Int)≤i∧-9223372036854775808≤i then xs[(i+xs.length).toNat]? else none)
 |.tup xs=>if 0≤i∧i<9223372036854775808 then xs[i.toNat]? else none
 |.str s=>if 0≤i∧i<9223372036854775808 then (s[i.toNat]?).map fun c=>.str [c] else none
 |_=>none
theorem op {β:Type} {P:Prop} {c:Prop} [Decidable c] {x:Option β} {b:β} (h:(if c then x else none)=some b) (k:c→x=some b→P):P:=by
 by_cases q:c
 ·rw [if_pos q] at h;exact k q h
 ·rw [if_neg q] at h;cases h
theorem on {α:Type} {P:Option α→Prop} {x:Option α} (h:x.isNone=true) (k:P none):P x:=by
 cases x with
 |none=>exact k
 |some _=>cases h
noncomputable def bound:Option V→Option (Option Nat)
 |none=>some none
 |some v=>(l7 v).bind fun i=>if 0≤i∧i<9223372036854775808 then some (some i.toNat) else none
noncomputable def cut {α:Type} (lo hi:Option Nat) (xs:List α):List α:=(xs.take (hi.getD xs.length)).drop (lo.getD 0)
noncomputable def bA {α:Type} (n:Nat):Nat→List α→List α
 |0,_=>[]
 |_+1,[]=>[]
 |k+1,x::r=>x::bA n k (r.drop (n-1))
theorem Bo {α:Type} {n k:Nat} {x:α} {r:List α}:bA n (k+1) (x::r)=x::bA n k (r.drop (n-1)):=rfl
noncomputable def stride {α:Type} (n:Nat) (xs:List α):List α:=bA n xs.length xs
noncomputable def jg (o:V) (lo hi st:Option V):Option V:=match st with
 |none=>match o with
  |.str s=>(bound lo).bind fun l=>(bound hi).bind fun h=>some (.str (cut l h s))
  |.lst s=>(bound lo).bind fun l=>(bound hi).bind fun h=>some (.lst (cut l h s))
  |.tup s=>(bound lo).bind fun l=>l.bind fun l=>if hi.isNone=true then (if 1≤l∧l≤s.length then some (.tup (s.drop l)) else none) else none
  |_=>none
 |some k=>(x9 o).bind fun s=>(l7 k).bind fun k=>
  if k=-1 then (if lo.isNone=true then (if hi.isNone=true then some (.lst s.reverse) else none) else none)
  else if k=7 then (if hi.isNone=true then (bound lo).bind fun l=>l.bind fun l=>some (.lst (stride 7 (s.drop l))) else none) else none
noncomputable def aI (c:Nat):List Nat→List (List Nat)
 |[]=>[[]]
 |x::r=>if x=c then []::aI c r else (match aI c r with|w::ws=>(x::w)::ws|[]=>[[x]])
noncomputable def cu (sep:List Nat):List (List Nat)→List Nat
 |[]=>[]
 |[x]=>x
 |x::r=>x++sep++cu sep r
noncomputable def vX (c:Nat) (l:List Nat):Int:=match l.reverse.findIdx? (·==c) with
 |some i=>(l.length:Int)-1-i
 |none=>-1
noncomputable def iR (c:Nat) (l:List Nat):List Nat:=(l.reverse.dropWhile (·==c)).reverse
noncomputable def o6 {α:Type} (f:V→Option α) (args:List V):Option α:=match args with
 |[]=>none
 |v::r=>if r.isEmpty then f v else none
noncomputable def vY {α:Type} (f:V→V→Option α) (args:List V):Option α:=match args with
 |[]=>none
 |v::r=>o6 (f v) r
noncomputable def vZ (args:List V):Option Nat:=o6 (fun v=>(x8 v).bind Rn) args
noncomputable def Rr (k:MT) (s:List Nat) (args:List V):Option V:=match k with
 |.split=>(vZ args).bind fun c=>if ck (s.length+1) then some (.lst ((aI c s).map .str)) else none
 |.join=>(o6 x9 args).bind fun xs=>(bJ xs).bind fun l=>if ck ((l.map List.length).sum+l.length*s.length) then some (.str (cu s l)) else none
 |.rfind=>(vZ args).bind fun c=>some (.int (vX c s))
 |.rstrip=>(vZ args).bind fun c=>some (.str (iR c s))
 |.startswith=>(vZ args).bind fun c=>some (.bool (s.head?==some c))
 |.endswith=>(vZ args).bind fun c=>some (.bool (s.getLast?==some c))
 |.count=>(vZ args).bind fun c=>some (.int (s.count c))
 |.index=>vY (fun x y=>(x8 x).bind fun u=>(Rn u).bind fun c=>(l7 y).bind fun i=> if decide (0≤i∧i≤(s.length:Int)) then ((s.drop i.toNat).findIdx? (·==c)).map fun (k:Nat)=>.int (i+(k:Int)) else none) args
 |.bP=>none
noncomputable def djV (k:MT) (j:Nat) (args:List V):Option V:=match k with
 |.bP=>(o6 x8 args).bind fun s=>some (.bool (s.all fun c=>!aQ j c))
 |_=>none
noncomputable def lF (k:MT) (o:V) (args:List V):Option V:=match o with
 |.str s=>Rr k s args
 |.fW j=>djV k j args
 |_=>none
noncomputable def V0 (v:V):Option V:=match v with
 |.str s=>some (.int s.length)
 |.lst s=>some (.int s.length)
 |.tup s=>some (.int s.length)
 |.cI s=>some (.int s.length)
 |_=>none
noncomputable def jm (c:Int→Int→Bool) (d:List (List Nat)→List (List Nat)→Bool) (xs:List V):Option V:=match fX xs with
 |some l=>(match l with
  |a::r=>some (.int (r.foldl (fun x y=>if c x y then y else x) a))
  |[]=>none)
 |none=>vY (fun a b=>(x9 a).bind fun a=>(x9 b).bind fun b=>(bJ a).bind fun x=>(bJ b).bind fun y=>some (if d x y then .lst b else .lst a)) xs
noncomputable def v7 (k:BI) (args:List V):Option V:=match k with
 |.len=>o6 V0 args
 |.sum=>(o6 x9 args).bind fun xs=>(fX xs).bind fun l=>some (.int l.sum)
 |.min=>(o6 x9 args).bind (jm (fun x y=>decide (y<x)) fun x y=>jk y x)
 |.max=>(o6 x9 args).bind (jm (fun x y=>decide (x<y)) jk)
 |.range=>match args with
  |[]=>none
  |x::r=>(l7 x).bind fun a=>match r with
   |[]=>if small a then some (.jM 0 a) else none
   |y::t=>(l7 y).bind fun b=>if t.isEmpty&&(small a&&small b) then some (.jM a b) else none
 |.gj=>vY (fun x y=>(x8 x).bind fun _=>(LU y).bind fun n=>if n=="bytes" then some (.bool false) else none) args
 |.type=>(o6 x8 args).bind fun _=>some (.ty "str")
 |.pT=>vY (fun x y=>(LU x).bind fun n=>(DW y).bind fun l=>vY (fun a b=>(LU a).bind fun a=>(LU b).bind fun b=>if n=="str"&&a=="str"&&b=="bytes" then some (.bool true) else none) l) args
noncomputable def zC (a b:Int):List V:=(List.range (b-a).toNat).map fun (k:Nat)=>.int (a+(k:Int))
noncomputable def cO:V→Option (List V)
 |.lst xs=>some xs
 |.tup xs=>some xs
 |.jM a b=>if ck (b-a).toNat then some (zC a b) else none
 |_=>none
inductive Sl where
 |fz (v:V)
 |own (xs:List V)
 deriving Inhabited
noncomputable abbrev ao:=List (Nat×Sl)
noncomputable def ah:ao→Nat→Option Sl
 |[],_=>none
 |(y,s)::r,x=>if Nat.beq y x then some s else ah r x
noncomputable def ak:ao→Nat→Sl→ao
 |[],x,s=>[(x,s)]
 |(y,t)::r,x,s=>if Nat.beq y x then (x,s)::r else (y,t)::ak r x s
noncomputable def cL:ao→ao:=List.map fun p=>(p.1,match p.2 with|.own xs=>Sl.fz (.lst xs)|s=>s)
noncomputable def jQ (m:ao) (x:Nat):Option V:=match ah m x with
 |some (.fz v)=>some v
 |_=>none
noncomputable def eV (m:ao) (x:Nat):Option (List V):=match ah m x with
 |some (.own v)=>some v
 |_=>none
noncomputable def jN (m:ao) (x:Nat) (v:V):Option ao:=match ah m x with
 |some (.own _)=>none
 |_=>some (ak m x (.fz v))
noncomputable def fq:ao→List Nat→List V→Option ao
 |m,[],vs=>if vs.isEmpty then some m else none
 |m,x::xs,vs=>(uC vs).bind fun q=>(jN m x q.1).bind fun m=>fq m xs q.2
noncomputable def bQ (m:ao) (tg:Tg) (v:V):Option ao:=match tg with
 |.one x=>jN m x v
 |.many xs=>(DW v).bind fun vs=>fq m xs vs
structure Calls where
 f:Nat→List V→List (Nat×V)→Option V
 io:Nat→List V→List V→Option (V×List V)
noncomputable def LV:Nat→Option V
 |0=>some (.fW 0)
 |1=>some (.fW 1)
 |2=>some (.ty "str")
 |3=>some (.ty "bytes")
 |4=>some (.fW 1)
 |_=>none
noncomputable def bK (g:V→Option (Option V)):List V→Option (List V)
 |[]=>some []
 |x::r=>(g x).bind fun y=>(bK g r).map fun ys=>y.toList++ys
noncomputable def o7 {α β:Type} (g:α→Option β):List α→Option (List β)
 |[]=>some []
 |x::r=>(g x).bind fun y=>(o7 g r).map (y::·)
mutual
noncomputable def ev (C:Calls) (m:ao):PE→Option V
 |.cn v=>some v
 |.var x=>jQ m x
 |.gl n=>LV n
 |.bin op l r=>(ev C m l).bind fun a=>(ev C m r).bind fun b=>jx op a b
 |.not _=>none
 |.neg e=>(ev C m e).bind fun v=>(l7 v).bind fun i=>some (.int (-i))
 |.and l r=>(ev C m l).bind fun a=>(jy a).bind fun b=>if b then ev C m r else some a
 |.or l r=>(ev C m l).bind fun a=>(jy a).bind fun b=>if b then some a else ev C m r
 |.ite t a b=>(tr C m t).bind fun c=>if c then ev C m a else ev C m b
 |.cmp op l r=>(ev C m l).bind fun a=>(ev C m r).bind fun b=>(o5 op a b).map .bool
 |.lst es=>(jh C m es).bind fun vs=>if ck vs.length then some (.lst vs) else none
 |.tup es=>(jh C m es).bind fun vs=>if ck vs.length then some (.tup vs) else none
 |.fk e=>(ev C m e).bind fun v=>(l7 v).bind fun i=>if decide (0≤i)&&decide (i<7) then some (.cI [i]) else none
 |.idx o i=>(ev C m o).bind fun a=>(ev C m i).bind fun b=>jf a b
 |.slc o lo hi st=>(ev C m o).bind fun a=>(zD C m lo).bind fun l=>(zD C m hi).bind fun h=>(zD C m st).bind fun s=>jg a l h s
 |.call f args=>(jh C m args).bind fun vs=>C.f f vs []
 |.ic f args kws=>(jh C m args).bind fun vs=>(V1 C m kws).bind fun ks=>C.f f vs ks
 |.bi b args=>(jh C m args).bind fun vs=>v7 b vs
 |.gk f e=>(ev C m e).bind fun v=>(x9 v).bind fun xs=>(bJ xs).bind fun _=>(o7 (fun x=>C.f f [x] []) xs).bind fun ys=>(bJ ys).map fun _=>.tup ys
 |.bZ k o args=>(ev C m o).bind fun a=>(jh C m args).bind fun vs=>lF k a vs
 |.comp elt tg it ifs=>(ev C m it).bind fun v=>(cO v).bind fun xs=> (bK (fun x=>(bQ m tg x).bind fun m'=>(Bp C m' ifs).bind fun ok=>if ok then (ev C m' elt).map some else some none) xs).map .lst
 |.cR x=>(eV m x).map fun xs=>.int xs.length
 |.cJ _=>none
 |.aH x i=>(eV m x).bind fun xs=>(ev C m i).bind fun b=>jf (.lst xs) b
 |.gm x lo=>(eV m x).bind fun xs=>(ev C m lo).bind fun b=>jg (.lst xs) (some b) none none
 |.bad=>none
noncomputable def tr (C:Calls) (m:ao):PE→Option Bool
 |.not e=>(tr C m e).map not
 |.and l r=>(tr C m l).bind fun b=>if b then tr C m r else some false
 |.or l r=>(tr C m l).bind fun b=>if b then some true else tr C m r
 |.ite t a b=>(tr C m t).bind fun c=>if c then tr C m a else tr C m b
 |.cmp op l r=>(ev C m l).bind fun a=>(ev C m r).bind fun b=>o5 op a b
 |.var x=>(jQ m x).bind jy
 |.cJ x=>(eV m x).map fun xs=>!xs.isEmpty
 |.bin op l r=>(ev C m l).bind fun a=>(ev C m r).bind fun b=>(jx op a b).bind jy
 |.idx o i=>(ev C m o).bind fun a=>(ev C m i).bind fun b=>(jf a b).bind jy
 |.call f args=>(jh C m args).bind fun vs=>(C.f f vs []).bind jy
 |.bi b args=>(jh C m args).bind fun vs=>(v7 b vs).bind jy
 |.bZ k o args=>(ev C m o).bind fun a=>(jh C m args).bind fun vs=>(lF k a vs).bind jy
 |_=>none
noncomputable def jh (C:Calls) (m:ao):List PE→Option (List V)
 |[]=>some []
 |e::r=>(ev C m e).bind fun v=>(jh C m r).map (v::·)
noncomputable def V1 (C:Calls) (m:ao):List (Nat×PE)→Option (List (Nat×V))
 |[]=>some []
 |(n,e)::r=>(ev C m e).bind fun v=>(V1 C m r).map ((n,v)::·)
noncomputable def zD (C:Calls) (m:ao):Option PE→Option (Option V)
 |none=>some none
 |some e=>(ev C m e).map some
noncomputable def Bp (C:Calls) (m:ao):Option PE→Option Bool
 |none=>some true
 |some e=>tr C m e
end
inductive Fl where
 |next|brk|cont
 |ret (v:V)
 deriving Inhabited
noncomputable def lG (C:Calls) (m:ao) (e:PE):Option (V×ao):=match ev C m e with
 |some v=>some (v,m)
 |none=>(ev C (cL m) e).map fun v=>(v,cL m)
noncomputable def forL (g:ao→V→Option (Fl×ao)):List V→ao→Option (Fl×ao)
 |[],m=>some (.next,m)
 |x::r,m=>(g m x).bind fun p=>match p.1 with
  |.next|.cont=>forL g r p.2
  |.brk=>some (.next,p.2)
  |.ret v=>some (.ret v,p.2)
noncomputable def tG (t:ao→Option Bool) (g:ao→Option (Fl×ao)):Nat→ao→Option (Fl×ao)
 |0,_=>none
 |k+1,m=>(t m).bind fun b=>if b then (g m).bind fun p=>(match p.1 with
   |.next|.cont=>tG t g k p.2
   |.brk=>some (.next,p.2)
   |.ret v=>some (.ret v,p.2)) else some (.next,m)
mutual
noncomputable def ex (C:Calls) (K:Nat):PS→ao→Option (Fl×ao)
 |.asg x e,m=>(lG C m e).bind fun p=>(jN p.2 x p.1).map fun m'=>(.next,m')
 |.bE x es,m=>(jh C m es).bind fun vs=>if ck vs.length&&(ah m x).isNone then some (.next,ak m x (.own vs)) else none
 |.l6 xs e,m=>(lG C m e).bind fun p=>(DW p.1).bind fun vs=>(fq p.2 xs vs).map fun m'=>(.next,m')
 |.aug x op e,m=>(jQ m x).bind fun a=>(ev C m e).bind fun b=>(jx op a b).bind fun v=>if Rm v then (jN m x v).map fun m'=>(.next,m') else none
 |.app x e,m=>(eV m x).bind fun xs=>(ev C m e).bind fun v=>if ck (xs.length+1) then some (.next,ak m x (.own (xs++[v]))) else none
 |.zA x,m=>(eV m x).bind fun xs=>if !xs.isEmpty then some (.next,ak m x (.own xs.dropLast)) else none
 |.lE y x,m=>(eV m x).bind fun xs=>(xs.getLast?).bind fun v=>(jN (ak m x (.own xs.dropLast)) y v).map fun m'=>(.next,m')
 |.ie x i e,m=>(ev C m e).bind fun v=>(eV m x).bind fun xs=>(ev C m i).bind fun j=>(l7 j).bind fun j=>if decide (0≤j∧j<(xs.length:Int)) then some (.next,ak m x (.own (xs.set j.toNat v))) else none
 |.io f x args,m=>(eV m x).bind fun xs=>(jh C m args).bind fun vs=>(C.io f xs vs).map fun p=>(.next,ak m x (.own p.2))
 |.D8 ys f x lo,m=>(eV m x).bind fun xs=>(C.io f xs []).bind fun p=>(ev C (ak m x (.own p.2)) lo).bind fun l=>(jg p.1 (some l) none none).bind fun t=>(DW t).bind fun vs=>(fq (ak m x (.own p.2)) ys vs).map fun m'=>(.next,m')
 |.fH t a b,m=>(tr C m t).bind fun c=>if c then exs C K a m else exs C K b m
 |.zB t body,m=>tG (fun m=>tr C m t) (fun m=>exs C K body m) K m
 |.dW tg it body,m=>(lG C m it).bind fun p=>(cO p.1).bind fun xs=>forL (fun m x=>(bQ m tg x).bind fun m'=>exs C K body m') xs p.2
 |.eU i c it body,m=>(ev C m it).bind fun v=>(x9 v).bind fun xs=>forL (fun m x=>(bQ m (.many [i,c]) x).bind fun m'=>exs C K body m') (xs.zipIdx.map fun p=>.tup [.int p.2,p.1]) m
 |.qP x elt y it,m=>(ev C m it).bind fun v=>(cO v).bind fun xs=> (o7 (fun z=>(jN m y z).bind fun m'=>ev C m' elt) xs).bind fun ys=>(uC ys).bind fun q=>(Uk q.1).bind fun b=>if q.2.all (Bk b) then (jN m x (.bool b)).map fun m'=>(.next,m') else none
 |.ig body,m=>exs C K body m
 |.ret e,m=>(lG C m e).map fun p=>(.ret p.1,p.2)
 |.brk,m=>some (.brk,m)
 |.cont,m=>some (.cont,m)
 |.bad,_=>none
noncomputable def exs (C:Calls) (K:Nat):List PS→ao→Option (Fl×ao)
 |[],m=>some (.next,m)
 |s::r,m=>(ex C K s m).bind fun p=>match p.1 with
  |.next=>exs C K r p.2
  |_=>some p
end
structure FD where
 params:List Nat
 star:Option Nat
 o8:List Nat
 io:Bool
 body:List PS
 deriving Inhabited
noncomputable def mU:List Nat→Option Nat→List V→Option ao
 |[],st,vs=>(match st with
  |none=>if vs.isEmpty then some [] else none
  |some p=>if ck vs.length then some [(p,.fz (.tup vs))] else none)
 |x::xs,st,vs=>(uC vs).bind fun q=>(mU xs st q.2).map ((x,.fz q.1)::·)
noncomputable def tS:List Nat→List (Nat×V)→Option ao
 |[],ks=>if ks.isEmpty then some [] else none
 |x::xs,ks=>(uC ks).bind fun q=>if Nat.beq x q.1.1 then (tS xs q.2).map ((x,.fz q.1.2)::·) else none
noncomputable def V2 (f:Fl):Option V:=match f with
 |.ret v=>some v
 |.next=>some .none
 |_=>none
noncomputable def outF (r:Option (Fl×ao)):Option V:=r.bind fun p=>V2 p.1
noncomputable def tT (x:Nat) (r:Option (Fl×ao)):Option (V×List V):=r.bind fun p=>(V2 p.1).bind fun v=>(eV p.2 x).map fun xs=>(v,xs)
noncomputable def o9 (T:Nat→Option FD) (C:Calls) (K:Nat) (f:Nat) (args:List V) (kws:List (Nat×V)):Option V:= (T f).bind fun d=>if !d.io then (mU d.params d.star args).bind fun a=>(tS d.o8 kws).bind fun b=>outF (exs C K d.body (a++b)) else none
noncomputable def Bq (T:Nat→Option FD) (C:Calls) (K:Nat) (f:Nat) (xs:List V) (args:List V):Option (V×List V):= (T f).bind fun d=>if d.io&&d.star.isNone&&d.o8.isEmpty then (uC d.params).bind fun p=>(mU p.2 none args).bind fun a=>tT p.1 (exs C K d.body ((p.1,.own xs)::a)) else none
noncomputable def lv (T:Nat→Option FD) (K:Nat):Nat→Calls
 |0=>⟨fun _ _ _=>none,fun _ _ _=>none⟩
 |n+1=>⟨o9 T (lv T K n) K,Bq T (lv T K n) K⟩
end
section
open PySem
noncomputable def nmT:List String:=["heap","item","lastelt","returnitem","newitem","pos","startpos","parentpos","parent","endpos","childpos","rightpos","kind","path","hook","given","a","sep","b","p","empty","i","head","dot","dotdot","_","initial_slashes","comps","new_comps","comp","paths","curdir","split_paths","isabs","s","c","s1","s2","common","prefix","src","chars","new_pos","expect","error_on","error_on_eof","char","start_pos","starts","k","script","numbers","texts","above","rows","ahead","behind","live","start","text","place","end","step","reach","one","other","listing","posts","heard","row","post","wide","here","ways","told","kept","sizes","size","first","white","rest","near","together","apart","fewest","most","set_out","called"]
noncomputable def fnT:List String:=["heappush","heappop","_siftdown","_siftup","fspath","_get_sep","join","splitroot","dirname","normpath","commonpath","skip_chars","skip_until","skip_comment","parse_literal_str","_law_numbers","_law_above","_law_texts","_law_rows","_law_live","_law_depth","_law_top","_law_steps","_law_set","_law_ways","_law_together","_law_apart","_law_sizes","_law_choice","law"]
noncomputable def glT:List String:=["TOML_WS","ILLEGAL_COMMENT_CHARS","str","bytes","ILLEGAL_LITERAL_STR_CHARS"]
noncomputable def b0:List PS:=[.app 0 (.var 1),.io 2 0 [(.cn (.int 0)),(.bin .sub (.cR 0) (.cn (.int 1)))]]
noncomputable def d0:FD:=⟨[0,1],none,[],true,b0⟩
noncomputable def b1:List PS:=[.lE 2 0,.fH (.cJ 0) [.asg 3 (.aH 0 (.cn (.int 0))),.ie 0 (.cn (.int 0)) (.var 2),.io 3 0 [(.cn (.int 0))],.ret (.var 3)] [],.ret (.var 2)]
noncomputable def d1:FD:=⟨[0],none,[],true,b1⟩
noncomputable def b2:List PS:=[.asg 4 (.aH 0 (.var 5)),.zB (.cmp .gt (.var 5) (.var 6)) [.asg 7 (.bin .shr (.bin .sub (.var 5) (.cn (.int 1))) (.cn (.int 1))),.asg 8 (.aH 0 (.var 7)),.fH (.cmp .lt (.var 4) (.var 8)) [.ie 0 (.var 5) (.var 8),.asg 5 (.var 7),.cont] [],.brk],.ie 0 (.var 5) (.var 4)]
noncomputable def d2:FD:=⟨[0,6,5],none,[],true,b2⟩
noncomputable def b3:List PS:=[.asg 9 (.cR 0),.asg 6 (.var 5),.asg 4 (.aH 0 (.var 5)),.asg 10 (.bin .add (.bin .mul (.cn (.int 2)) (.var 5)) (.cn (.int 1))),.zB (.cmp .lt (.var 10) (.var 9)) [.asg 11 (.bin .add (.var 10) (.cn (.int 1))),.fH (.and (.cmp .lt (.var 11) (.var 9)) (.not (.cmp .lt (.aH 0 (.var 10)) (.aH 0 (.var 11))))) [.asg 10 (.var 11)] [],.ie 0 (.var 5) (.aH 0 (.var 10)),.asg 5 (.var 10),.asg 10 (.bin .add (.bin .mul (.cn (.int 2)) (.var 5)) (.cn (.int 1)))],.ie 0 (.var 5) (.var 4),.io 2 0 [(.var 6),(.var 5)]]
noncomputable def d3:FD:=⟨[0,5],none,[],true,b3⟩
noncomputable def b4:List PS:=[.asg 12 (.bi .type [(.var 13)]),.fH (.bi .pT [(.var 12),(.tup [(.gl 2),(.gl 3)])]) [.ret (.var 13)] [],.bad,.asg 14 .bad,.fH .bad [.bad] [],.fH .bad [.bad] [],.asg 15 .bad,.fH (.bi .pT [(.bi .type [(.var 15)]),(.tup [(.gl 2),(.gl 3)])]) [.ret (.var 15)] [],.fH (.cmp .gt (.bi .len [.bad]) (.cn (.int 200))) [.bad] [],.bad]
noncomputable def d4:FD:=⟨[13],none,[],false,b4⟩
noncomputable def b5:List PS:=[.fH (.bi .gj [(.var 13),(.gl 3)]) [.ret .bad] [.ret (.cn (.str [47]))]]
noncomputable def d5:FD:=⟨[13],none,[],false,b5⟩
noncomputable def b6:List PS:=[.asg 16 (.call 4 [(.var 16)]),.asg 17 (.call 5 [(.var 16)]),.asg 13 (.var 16),.ig [.dW (.one 18) (.var 19) [.asg 18 (.call 4 [(.var 18)]),.fH (.or (.bZ .startswith (.var 18) [(.var 17)]) (.not (.var 13))) [.asg 13 (.var 18)] [.fH (.bZ .endswith (.var 13) [(.var 17)]) [.aug 13 .add (.var 18)] [.aug 13 .add (.bin .add (.var 17) (.var 18))]]]],.ret (.var 13)]
noncomputable def d6:FD:=⟨[16],(some 19),[],false,b6⟩
noncomputable def b7:List PS:=[.asg 19 (.call 4 [(.var 19)]),.fH (.bi .gj [(.var 19),(.gl 3)]) [.asg 17 .bad,.asg 20 .bad] [.asg 17 (.cn (.str [47])),.asg 20 (.cn (.str []))],.fH (.cmp .ne (.slc (.var 19) none (some (.cn (.int 1))) none) (.var 17)) [.ret (.tup [(.var 20),(.var 20),(.var 19)])] [.fH (.or (.cmp .ne (.slc (.var 19) (some (.cn (.int 1))) (some (.cn (.int 2))) none) (.var 17)) (.cmp .eq (.slc (.var 19) (some (.cn (.int 2))) (some (.cn (.int 3))) none) (.var 17))) [.ret (.tup [(.var 20),(.var 17),(.slc (.var 19) (some (.cn (.int 1))) none none)])] [.ret (.tup [(.var 20),(.slc (.var 19) none (some (.cn (.int 2))) none),(.slc (.var 19) (some (.cn (.int 2))) none none)])]]]
noncomputable def d7:FD:=⟨[19],none,[],false,b7⟩
noncomputable def b8:List PS:=[.asg 19 (.call 4 [(.var 19)]),.asg 17 (.call 5 [(.var 19)]),.asg 21 (.bin .add (.bZ .rfind (.var 19) [(.var 17)]) (.cn (.int 1))),.asg 22 (.slc (.var 19) none (some (.var 21)) none),.fH (.and (.var 22) (.cmp .ne (.var 22) (.bin .mul (.var 17) (.bi .len [(.var 22)])))) [.asg 22 (.bZ .rstrip (.var 22) [(.var 17)])] [],.ret (.var 22)]
noncomputable def d8:FD:=⟨[19],none,[],false,b8⟩
noncomputable def b9:List PS:=[.asg 13 (.call 4 [(.var 13)]),.fH (.bi .gj [(.var 13),(.gl 3)]) [.asg 17 .bad,.asg 23 .bad,.asg 24 .bad] [.asg 17 (.cn (.str [47])),.asg 23 (.cn (.str [46])),.asg 24 (.cn (.str [46,46]))],.fH (.not (.var 13)) [.ret (.var 23)] [],.l6 [25,26,13] (.call 7 [(.var 13)]),.asg 27 (.bZ .split (.var 13) [(.var 17)]),.bE 28 [],.dW (.one 29) (.var 27) [.fH (.or (.not (.var 29)) (.cmp .eq (.var 29) (.var 23))) [.cont] [],.fH (.or (.cmp .ne (.var 29) (.var 24)) (.or (.and (.not (.var 26)) (.not (.cJ 28))) (.and (.cJ 28) (.cmp .eq (.aH 28 (.neg (.cn (.int 1)))) (.var 24))))) [.app 28 (.var 29)] [.fH (.cJ 28) [.zA 28] []]],.asg 27 (.var 28),.asg 13 (.bin .add (.var 26) (.bZ .join (.var 17) [(.var 27)])),.ret (.or (.var 13) (.var 23))]
noncomputable def d9:FD:=⟨[13],none,[],false,b9⟩
noncomputable def V3:List PS:=[.asg 30 (.gk 4 (.var 30)),.fH (.not (.var 30)) [.bad] [],.fH (.bi .gj [(.idx (.var 30) (.cn (.int 0))),(.gl 3)]) [.asg 17 .bad,.asg 31 .bad] [.asg 17 (.cn (.str [47])),.asg 31 (.cn (.str [46]))],.ig [.asg 32 (.comp (.bZ .split (.var 13) [(.var 17)]) (.one 13) (.var 30) none),.ig [.qP 33 (.bZ .startswith (.var 19) [(.var 17)]) 19 (.var 30)],.asg 32 (.comp (.comp (.var 35) (.one 35) (.var 34) (some (.and (.var 35) (.cmp .ne (.var 35) (.var 31))))) (.one 34) (.var 32) none),.asg 36 (.bi .min [(.var 32)]),.asg 37 (.bi .max [(.var 32)]),.asg 38 (.var 36),.eU 21 35 (.var 36) [.fH (.cmp .ne (.var 35) (.idx (.var 37) (.var 21))) [.asg 38 (.slc (.var 36) none (some (.var 21)) none),.brk] []],.asg 39 (.ite (.var 33) (.var 17) (.slc (.var 17) none (some (.cn (.int 0))) none)),.ret (.bin .add (.var 39) (.bZ .join (.var 17) [(.var 38)]))]]
noncomputable def Um:FD:=⟨[30],none,[],false,V3⟩
noncomputable def Un:List PS:=[.ig [.zB (.cmp .isin (.idx (.var 40) (.var 5)) (.var 41)) [.aug 5 .add (.cn (.int 1))]],.ret (.var 5)]
noncomputable def d11:FD:=⟨[40,5,41],none,[],false,Un⟩
noncomputable def Zd:List PS:=[.ig [.asg 42 (.bZ .index (.var 40) [(.var 43),(.var 5)])],.fH (.not (.bZ .bP (.var 44) [(.slc (.var 40) (some (.var 5)) (some (.var 42)) none)])) [.zB .bad [.aug 5 .add (.cn (.int 1))],.bad] [],.ret (.var 42)]
noncomputable def d12:FD:=⟨[40,5,43],none,[44,45],false,Zd⟩
noncomputable def V4:List PS:=[.ig [.asg 46 (.idx (.var 40) (.var 5))],.fH (.cmp .eq (.var 46) (.cn (.str [35]))) [.ret (.ic 12 [(.var 40),(.bin .add (.var 5) (.cn (.int 1))),(.cn (.str [10]))] [(44,(.gl 1)),(45,(.cn (.bool false)))])] [],.ret (.var 5)]
noncomputable def d13:FD:=⟨[40,5],none,[],false,V4⟩
noncomputable def Ze:List PS:=[.aug 5 .add (.cn (.int 1)),.asg 47 (.var 5),.asg 5 (.ic 12 [(.var 40),(.var 5),(.cn (.str [39]))] [(44,(.gl 4)),(45,(.cn (.bool true)))]),.ret (.tup [(.bin .add (.var 5) (.cn (.int 1))),(.slc (.var 40) (some (.var 47)) (some (.var 5)) none)])]
noncomputable def d14:FD:=⟨[40,5],none,[],false,Ze⟩
noncomputable def V5:List PS:=[.asg 48 (.lst [(.cn (.int 294)),(.cn (.int 30)),(.cn (.int 163)),(.cn (.int 331)),(.cn (.int 98)),(.cn (.int 259)),(.cn (.int 120))]),.ret (.comp (.bin .add (.idx (.var 48) (.var 49)) (.bi .sum [(.slc (.var 50) (some (.var 49)) none (some (.cn (.int 7))))])) (.one 49) (.bi .range [(.cn (.int 7))]) none)]
noncomputable def d15:FD:=⟨[50],none,[],false,V5⟩
noncomputable def V6:List PS:=[.ret (.bin .add (.lst [(.cn (.int 0))]) (.comp (.bin .mod (.idx (.var 51) (.var 49)) (.var 49)) (.one 49) (.bi .range [(.cn (.int 1)),(.cn (.int 7))]) none))]
noncomputable def d16:FD:=⟨[51],none,[],false,V6⟩
noncomputable def V7:List PS:=[.bE 52 [(.cn (.str []))],.dW (.one 49) (.bi .range [(.cn (.int 1)),(.cn (.int 7))]) [.app 52 (.bin .add (.bin .add (.aH 52 (.idx (.var 53) (.var 49))) (.cn (.str [47]))) (.slc (.cn (.str [97,98,99,100,101,102])) none (some (.var 49)) none))],.ret (.bin .add (.lst [(.cn (.str [47]))]) (.gm 52 (.cn (.int 1))))]
noncomputable def d17:FD:=⟨[53],none,[],false,V7⟩
noncomputable def V8:List PS:=[.bE 54 [],.dW (.one 49) (.bi .range [(.cn (.int 7))]) [.asg 55 (.idx (.lst [(.cn (.str [47])),(.cn (.str [])),(.cn (.str [47,46,47])),(.cn (.str [47,122,47,46,46,47])),(.cn (.str [47,47,47])),(.cn (.str [46,46,47]))]) (.bin .mod (.bin .fdiv (.idx (.var 51) (.var 49)) (.cn (.int 18))) (.cn (.int 6)))),.asg 56 (.idx (.lst [(.cn (.str [])),(.cn (.str [32])),(.cn (.str [9,35,32,105,116,39,115])),(.cn (.str [35,39,47,39]))]) (.bin .mod (.bin .fdiv (.idx (.var 51) (.var 49)) (.cn (.int 108))) (.cn (.int 4)))),.app 54 (.tup [(.slc (.cn (.str [32,9])) none (some (.bin .mod (.bin .fdiv (.idx (.var 51) (.var 49)) (.cn (.int 6))) (.cn (.int 3)))) none),(.bin .add (.bin .add (.bin .add (.bin .add (.bin .add (.cn (.str [39])) (.var 55)) (.slc (.idx (.var 52) (.var 49)) (some (.cn (.int 1))) none none)) (.cn (.str [39]))) (.var 56)) (.cn (.str [10])))])],.ret (.var 54)]
noncomputable def d18:FD:=⟨[51,52],none,[],false,V8⟩
noncomputable def V9:List PS:=[.bE 57 [],.asg 58 (.cn (.int 0)),.zB (.cmp .lt (.var 58) (.bi .len [(.var 59)])) [.asg 60 (.call 11 [(.var 59),(.var 58),(.gl 0)]),.asg 61 (.call 13 [(.var 59),(.var 60)]),.fH (.cmp .eq (.var 61) (.var 60)) [.l6 [61,13] (.call 14 [(.var 59),(.var 60)]),.app 57 (.tup [(.var 60),(.bin .sub (.var 60) (.var 58)),(.call 9 [(.call 6 [(.cn (.str [47])),(.var 13)])])]),.asg 61 (.call 13 [(.var 59),(.call 11 [(.var 59),(.var 61),(.gl 0)])])] [],.asg 58 (.bin .add (.var 61) (.cn (.int 1)))],.ret (.var 57)]
noncomputable def d19:FD:=⟨[59],none,[],false,V9⟩
noncomputable def b20:List PS:=[.ret (.ite (.cmp .eq (.var 13) (.cn (.str [47]))) (.cn (.int 0)) (.bZ .count (.var 13) [(.cn (.str [47]))]))]
noncomputable def d20:FD:=⟨[13],none,[],false,b20⟩
noncomputable def b21:List PS:=[.asg 53 (.var 13),.dW (.one 62) (.bi .range [(.var 63)]) [.asg 53 (.call 8 [(.var 53)])],.ret (.var 53)]
noncomputable def d21:FD:=⟨[13,63],none,[],false,b21⟩
noncomputable def Wa:List PS:=[.ret (.bin .sub (.bin .add (.call 20 [(.var 64)]) (.call 20 [(.var 65)])) (.bin .mul (.cn (.int 2)) (.call 20 [(.call 10 [(.lst [(.var 64),(.var 65)])])])))]
noncomputable def d22:FD:=⟨[64,65],none,[],false,Wa⟩
noncomputable def Wb:List PS:=[.asg 59 (.var 66),.bE 0 [],.dW (.many [60,63,13]) (.call 19 [(.var 59)]) [.io 0 0 [(.tup [(.neg (.call 20 [(.call 21 [(.var 13),(.var 63)])])),(.var 13),(.var 63)])]],.bE 67 [],.bE 68 [],.zB (.cJ 0) [.D8 [13,63] 1 0 (.cn (.int 1)),.asg 57 (.call 19 [(.var 59)]),.fH (.cmp .isin (.var 13) (.comp (.idx (.var 69) (.cn (.int 2))) (.one 69) (.var 57) none)) [.asg 70 (.call 21 [(.var 13),(.var 63)]),.app 68 (.var 13),.app 67 (.var 70),.dW (.many [60,71,72]) (.slc (.var 57) none none (some (.neg (.cn (.int 1))))) [.fH (.cmp .le (.call 22 [(.var 72),(.var 70)]) (.var 71)) [.asg 59 (.bin .add (.bin .add (.slc (.var 59) none (some (.var 60)) none) (.cn (.str [35]))) (.slc (.var 59) (some (.var 60)) none none))] []]] []],.ret (.tup [(.var 67),(.var 68),(.var 59)])]
noncomputable def d23:FD:=⟨[66],none,[],false,Wb⟩
noncomputable def Wc:List PS:=[.bE 73 [(.fk (.cn (.int 0)))],.dW (.one 49) (.bi .range [(.cn (.int 1)),(.cn (.int 7))]) [.app 73 (.bin .bor (.aH 73 (.idx (.var 53) (.var 49))) (.fk (.var 49)))],.ret (.var 73)]
noncomputable def d24:FD:=⟨[53],none,[],false,Wc⟩
noncomputable def Wd:List PS:=[.asg 74 (.lst [(.cn (.int 0))]),.dW (.one 69) (.var 54) [.asg 74 (.bin .add (.var 74) (.comp (.bin .bor (.var 75) (.var 69)) (.one 75) (.var 74) none))],.ret (.var 74)]
noncomputable def d25:FD:=⟨[54],none,[],false,Wd⟩
noncomputable def We:List PS:=[.asg 74 (.lst [(.cn (.int 0))]),.dW (.one 69) (.var 54) [.asg 74 (.bin .add (.var 74) (.comp (.ite (.or (.cmp .lt (.var 75) (.cn (.int 0))) (.bin .band (.var 75) (.var 69))) (.neg (.cn (.int 1))) (.bin .bor (.var 75) (.var 69))) (.one 75) (.var 74) none))],.ret (.var 74)]
noncomputable def d26:FD:=⟨[54],none,[],false,We⟩
noncomputable def Wf:List PS:=[.asg 76 (.lst [(.cn (.int 0))]),.dW (.one 49) (.bi .range [(.cn (.int 7))]) [.asg 76 (.bin .add (.var 76) (.comp (.bin .add (.var 77) (.cn (.int 1))) (.one 77) (.var 76) none))],.ret (.var 76)]
noncomputable def d27:FD:=⟨[],none,[],false,Wf⟩
noncomputable def Wg:List PS:=[.ret (.bi .sum [(.comp (.bin .pow (.cn (.int 2)) (.var 49)) (.one 49) (.bi .range [(.cn (.int 7))]) (some (.cmp .isin (.idx (.var 52) (.var 49)) (.var 30))))])]
noncomputable def d28:FD:=⟨[30,52],none,[],false,Wg⟩
noncomputable def Zf:List PS:=[.asg 51 (.call 15 [(.var 50)]),.asg 53 (.call 16 [(.var 51)]),.asg 52 (.call 17 [(.var 53)]),.asg 54 (.call 18 [(.var 51),(.var 52)]),.asg 78 (.bin .mod (.bi .len [(.var 50)]) (.cn (.int 7))),.asg 66 (.bin .add (.slc (.var 54) (some (.var 78)) none none) (.slc (.var 54) none (some (.var 78)) none)),.l6 [67,68,59] (.call 23 [(.bZ .join (.cn (.str [])) [(.comp (.bin .add (.var 79) (.var 80)) (.many [79,80]) (.var 66) none)])]),.asg 73 (.call 24 [(.var 53)]),.asg 63 (.comp (.bin .mod (.bin .fdiv (.idx (.var 51) (.var 49)) (.cn (.int 6))) (.cn (.int 3))) (.one 49) (.bi .range [(.cn (.int 7))]) none),.asg 81 (.comp (.comp (.cmp .le (.bi .len [(.bin .bxor (.idx (.var 73) (.var 21)) (.idx (.var 73) (.var 49)))]) (.idx (.var 63) (.var 49))) (.one 49) (.bi .range [(.cn (.int 7))]) none) (.one 21) (.bi .range [(.cn (.int 7))]) none),.asg 82 (.call 25 [(.comp (.bi .sum [(.comp (.bin .pow (.cn (.int 2)) (.var 49)) (.one 49) (.bi .range [(.cn (.int 7))]) (some (.idx (.idx (.var 81) (.var 21)) (.var 49))))]) (.one 21) (.bi .range [(.cn (.int 7))]) none)]),.asg 83 (.call 26 [(.comp (.bi .sum [(.comp (.bin .pow (.cn (.int 2)) (.var 21)) (.one 21) (.bi .range [(.cn (.int 7))]) (some (.idx (.idx (.var 81) (.var 21)) (.var 49))))]) (.one 49) (.bi .range [(.cn (.int 7))]) none)]),.asg 76 (.call 27 []),.asg 84 (.bi .min [(.comp (.idx (.var 76) (.var 35)) (.one 35) (.bi .range [(.cn (.int 128))]) (some (.cmp .eq (.idx (.var 82) (.var 35)) (.cn (.int 127)))))]),.asg 85 (.bi .max [(.comp (.idx (.var 76) (.var 35)) (.one 35) (.bi .range [(.cn (.int 128))]) (some (.cmp .ge (.idx (.var 83) (.var 35)) (.cn (.int 0)))))]),.asg 86 (.call 28 [(.var 67),(.var 52)]),.asg 87 (.call 28 [(.var 68),(.var 52)]),.ret (.and (.cmp .eq (.idx (.var 82) (.var 86)) (.cn (.int 127))) (.and (.cmp .ge (.idx (.var 83) (.var 87)) (.cn (.int 0))) (.and (.cmp .eq (.lst [(.idx (.var 76) (.var 86)),(.idx (.var 76) (.var 87)),(.bi .len [(.var 67)]),(.bi .len [(.var 68)])]) (.lst [(.var 84),(.var 85),(.var 84),(.var 85)])) (.cmp .eq (.var 59) (.bZ .join (.cn (.str [])) [(.comp (.bin .add (.bin .add (.var 79) (.cn (.str [35]))) (.var 80)) (.many [79,80]) (.var 66) none)])))))]
noncomputable def d29:FD:=⟨[50],none,[],false,Zf⟩
noncomputable def ai:Nat→Option FD
 |0=>some d0
 |1=>some d1
 |2=>some d2
 |3=>some d3
 |4=>some d4
 |5=>some d5
 |6=>some d6
 |7=>some d7
 |8=>some d8
 |9=>some d9
 |10=>some Um
 |11=>some d11
 |12=>some d12
 |13=>some d13
 |14=>some d14
 |15=>some d15
 |16=>some d16
 |17=>some d17
 |18=>some d18
 |19=>some d19
 |20=>some d20
 |21=>some d21
 |22=>some d22
 |23=>some d23
 |24=>some d24
 |25=>some d25
 |26=>some d26
 |27=>some d27
 |28=>some d28
 |29=>some d29
 |_=>none
end
end Mine
end
section
open PySem
namespace Mine.P
variable {K f x y c pos j:Nat} {α β:Type} {s L:List Nat} {v z u:V} {t:ao→Option Bool} {b it e a o elt:PE} {g:ao→Option (Fl×ao)} {m:ao} {l:List (Nat×Sl)} {vs:List V} {i:Int} {A M:Nat→Nat} {near:Nat→Nat→Bool}
section
theorem gS {T:Nat→Option FD} {n:Nat} {args:List V} {kws:List (Nat×V)}:(lv T K (n+1)).f f args kws=o9 T (lv T K n) K f args kws:=rfl
theorem ya {T:Nat→Option FD} {n:Nat} {xs args:List V}:(lv T K (n+1)).io f xs args=Bq T (lv T K n) K f xs args:=rfl
theorem bb {x:Option α} {f:α→Option β} {a:α} {r:Option β} (h:x=some a) (k:f a=r):x.bind f=r:=by rw [h];exact k
section
variable {C:Calls} {K:Nat} {m:ao}
theorem qo1  :zD C m (none)=some none:=rfl
theorem qo2 {e}:zD C m (some e)=(ev C m e).map some:=rfl
theorem LW  :Bp C m (none)=some true:=rfl
theorem IE {e}:Bp C m (some e)=tr C m e:=rfl
theorem jO  :jh C m ([])=some []:=rfl
theorem jR {e}{r}:jh C m (e::r)=(ev C m e).bind fun v=>(jh C m r).map (v::·):=rfl
theorem qt1 {e}:tr C m (.not e)=(tr C m e).map not:=rfl
theorem Wh {l}{r}:tr C m (.and l r)=(tr C m l).bind fun b=>if b then tr C m r else some false:=rfl
theorem Zg {l}{r}:tr C m (.or l r)=(tr C m l).bind fun b=>if b then some true else tr C m r:=rfl
theorem Zh {x}:tr C m (.var x)=(jQ m x).bind jy:=rfl
theorem Uo {x}:tr C m (.cJ x)=(eV m x).map fun xs=>!xs.isEmpty:=rfl
theorem qt8 {op}{l}{r}:tr C m (.bin op l r)=(ev C m l).bind fun a=>(ev C m r).bind fun b=>(jx op a b).bind jy:=rfl
theorem Zi {o}{i}:tr C m (.idx o i)=(ev C m o).bind fun a=>(ev C m i).bind fun b=>(jf a b).bind jy:=rfl
theorem qv1 {v}:ev C m (.cn v)=some v:=rfl
theorem Wi {op}{l}{r}:ev C m (.cmp op l r)=(ev C m l).bind fun a=>(ev C m r).bind fun b=>(o5 op a b).map .bool:=rfl
theorem qR {es}:ev C m (.lst es)=(jh C m es).bind fun vs=>if ck vs.length then some (.lst vs) else none:=rfl
theorem Wj {es}:ev C m (.tup es)=(jh C m es).bind fun vs=>if ck vs.length then some (.tup vs) else none:=rfl
theorem Wk {e}:ev C m (.fk e)=(ev C m e).bind fun v=>(l7 v).bind fun i=>if decide (0≤i)&&decide (i<7) then some (.cI [i]) else none:=rfl
theorem Rt {o}{i}:ev C m (.idx o i)=(ev C m o).bind fun a=>(ev C m i).bind fun b=>jf a b:=rfl
theorem qv15 {o}{lo}{hi}{st}:ev C m (.slc o lo hi st)=(ev C m o).bind fun a=>(zD C m lo).bind fun l=>(zD C m hi).bind fun h=>(zD C m st).bind fun s=>jg a l h s:=rfl
theorem Ea {f}{args}:ev C m (.call f args)=(jh C m args).bind fun vs=>C.f f vs []:=rfl
theorem Eb {b}{args}:ev C m (.bi b args)=(jh C m args).bind fun vs=>v7 b vs:=rfl
theorem qv2 {x}:ev C m (.var x)=jQ m x:=rfl
theorem Ru {k}{o}{args}:ev C m (.bZ k o args)=(ev C m o).bind fun a=>(jh C m args).bind fun vs=>lF k a vs:=rfl
theorem zE {elt}{tg}{it}{ifs}:ev C m (.comp elt tg it ifs)=(ev C m it).bind fun v=>(cO v).bind fun xs=>(bK (fun x=>(bQ m tg x).bind fun m'=>(Bp C m' ifs).bind fun ok=>if ok then (ev C m' elt).map some else some none) xs).map .lst:=rfl
theorem Rv {x}:ev C m (.cR x)=(eV m x).map fun xs=>.int xs.length:=rfl
theorem Wl {x}{lo}:ev C m (.gm x lo)=(eV m x).bind fun xs=>(ev C m lo).bind fun b=>jg (.lst xs) (some b) none none:=rfl
theorem qv3 {n}:ev C m (.gl n)=LV n:=rfl
theorem qv6 {e}:ev C m (.neg e)=(ev C m e).bind fun v=>(l7 v).bind fun i=>some (.int (-i)):=rfl
theorem Wm {t}{a}{b}:ev C m (.ite t a b)=(tr C m t).bind fun c=>if c then ev C m a else ev C m b:=rfl
theorem qx10 {ys}{f}{x}{lo}:ex C K (.D8 ys f x lo) m=(eV m x).bind fun xs=>(C.io f xs []).bind fun p=>(ev C (ak m x (.own p.2)) lo).bind fun l=>(jg p.1 (some l) none none).bind fun t=>(DW t).bind fun vs=>(fq (ak m x (.own p.2)) ys vs).map fun m'=>(.next,m'):=rfl
theorem Wn {i}{c}{it}{body}:ex C K (.eU i c it body) m=(ev C m it).bind fun v=>(x9 v).bind fun xs=>forL (fun m x=>(bQ m (.many [i,c]) x).bind fun m'=>exs C K body m') (xs.zipIdx.map fun p=>.tup [.int p.2,p.1]) m:=rfl
theorem Wo {body}:ex C K (.ig body) m=exs C K body m:=rfl
theorem Br {e}:ex C K (.ret e) m=(lG C m e).map fun p=>(.ret p.1,p.2):=rfl
theorem Wq  :ex C K (.brk) m=some (.brk,m):=rfl
theorem IF {x}{es}:ex C K (.bE x es) m=(jh C m es).bind fun vs=>if ck vs.length&&(ah m x).isNone then some (.next,ak m x (.own vs)) else none:=rfl
theorem qx5 {x}{e}:ex C K (.app x e) m=(eV m x).bind fun xs=>(ev C m e).bind fun v=>if ck (xs.length+1) then some (.next,ak m x (.own (xs++[v]))) else none:=rfl
theorem qx7 {y}{x}:ex C K (.lE y x) m=(eV m x).bind fun xs=>(xs.getLast?).bind fun v=>(jN (ak m x (.own xs.dropLast)) y v).map fun m'=>(.next,m'):=rfl
theorem Up {f}{x}{args}:ex C K (.io f x args) m=(eV m x).bind fun xs=>(jh C m args).bind fun vs=>(C.io f xs vs).map fun p=>(.next,ak m x (.own p.2)):=rfl
end
section
variable {C:Calls} {K:Nat} {m m':ao}
theorem af {s:PS} {r:List PS} (h:ex C K s m=some (.next,m')):exs C K (s::r) m=exs C K r m':=bb h rfl
theorem aY {s:PS} {r:List PS} (h:ex C K s m=some (.ret v,m')):exs C K (s::r) m=some (.ret v,m'):=bb h rfl
theorem qS {s:PS} {r:List PS} (h:ex C K s m=some (.brk,m')):exs C K (s::r) m=some (.brk,m'):=bb h rfl
theorem tU {s:PS} {r:List PS} (h:ex C K s m=some (.cont,m')):exs C K (s::r) m=some (.cont,m'):=bb h rfl
theorem aK:exs C K [] m=some (.next,m):=rfl
noncomputable def qT (C:Calls) (t:PE) (m:ao):Option Bool:=tr C m t
noncomputable def ir (C:Calls) (K:Nat) (b:List PS) (m:ao):Option (Fl×ao):=exs C K b m
noncomputable def fK (C:Calls) (K:Nat) (tg:Tg) (b:List PS) (m:ao) (x:V):Option (Fl×ao):=(bQ m tg x).bind fun m'=>exs C K b m'
theorem mV {t:PE} {b:List PS}:ex C K (.zB t b) m=tG (qT C t) (ir C K b) K m:=rfl
theorem iu {tg:Tg} {b:List PS} {xs:List V} (h:lG C m it=some (v,m')) (hx:cO v=some xs):ex C K (.dW tg it b) m=forL (fK C K tg b) xs m':=bb h (bb hx rfl)
theorem jS {t:ao→Option Bool} {k:Nat} (h:t m=some true) (hg:g m=some (.next,m')):tG t g (k+1) m=tG t g k m':=bb h (bb hg rfl)
theorem Bs {t:ao→Option Bool} {k:Nat} (h:t m=some true) (hg:g m=some (.cont,m')):tG t g (k+1) m=tG t g k m':=bb h (bb hg rfl)
theorem Ec {t:ao→Option Bool} {k:Nat} (h:t m=some true) (hg:g m=some (.brk,m')):tG t g (k+1) m=some (.next,m'):=bb h (bb hg rfl)
theorem fY {t:ao→Option Bool} {k:Nat} (h:t m=some false):tG t g (k+1) m=some (.next,m):=bb h rfl
theorem aL {g:ao→V→Option (Fl×ao)} {x:V} {r:List V} (h:g m x=some (.next,m')):forL g (x::r) m=forL g r m':=bb h rfl
theorem jT {g:ao→V→Option (Fl×ao)}:forL g [] m=some (.next,m):=rfl
end
theorem au (m:ao) (x:Nat) (s:Sl):ah (ak m x s) x=some s:=by
 induction m with
 |nil=>exact if_pos (Nat.beq_refl x)
 |cons p r ih=>
  obtain ⟨y,t⟩:=p;show ah (if Nat.beq y x=true then (x,s)::r else (y,t)::ak r x s) x=_;cases h:Nat.beq y x with
  |true=>exact if_pos (Nat.beq_refl x)
  |false=> show (if Nat.beq y x=true then some t else ah (ak r x s) x)=_;rw [h];exact ih
theorem aR (m:ao) (s:Sl) (h:y≠x):ah (ak m x s) y=ah m y:=by
 have hb:Nat.beq x y=false:=by rw [←Bool.not_eq_true];exact fun q=>h (Nat.eq_of_beq_eq_true q).symm
 induction m with
 |nil=> show (if Nat.beq x y=true then some s else none)=none;rw [hb];rfl
 |cons p r ih=>
  obtain ⟨z,t⟩:=p;show ah (if Nat.beq z x=true then (x,s)::r else (z,t)::ak r x s) y=(if Nat.beq z y=true then some t else ah r y);cases hz:Nat.beq z x with
  |true=> rw [Nat.eq_of_beq_eq_true hz];show (if Nat.beq x y=true then some s else ah r y)=_;rw [hb];rfl
  |false=> show (if Nat.beq z y=true then some t else ah (ak r x s) y)=_;rw [ih]
theorem cE {s:Sl} (h:y≠x:=by decide):ah (ak m x s) y=ah m y:=aR m s h
section
variable {m m':ao} {x y z w:Nat} {s t u:Sl} {r:Option Sl}
theorem mC (k:ah m y=r) (h:y≠x:=by decide):ah (ak m x s) y=r:=(aR m s h).trans k
theorem zF (e:ak m x s=m') (k:ah m y=r) (h:y≠x:=by decide):ah m' y=r:=e▸mC k h
theorem AS (e:ak (ak m x s) z t=m') (k:ah m y=r) (h:y≠x:=by decide) (h2:y≠z:=by decide):ah m' y=r:=zF e (mC k h) h2
theorem gt3 (e:ak (ak (ak m x s) z t) w u=m') (k:ah m y=r) (h:y≠x:=by decide) (h2:y≠z:=by decide) (h3:y≠w:=by decide):ah m' y=r:=zF e (mC (mC k h) h2) h3
theorem DX (e:ak m x s=m'):ah m' x=some s:=e▸au m x s
theorem Uq (e:ak (ak m x s) z t=m') (h:x≠z:=by decide):ah m' x=some s:=zF e (au m x s) h
theorem gf2 (e:ak (ak (ak m x s) z t) w u=m') (h:x≠z:=by decide) (h2:x≠w:=by decide):ah m' x=some s:=AS e (au m x s) h h2
theorem LX (k:∀ys,ah m y≠some (.own ys)) (h:y≠x:=by decide):∀ys,ah (ak m x s) y≠some (.own ys):=by rw [aR m s h];exact k
theorem Zj (e:ak m x s=m') (k:∀ys,ah m y≠some (.own ys)) (h:y≠x:=by decide):∀ys,ah m' y≠some (.own ys):=e▸LX k h
theorem gn2 (e:ak (ak m x s) z t=m') (k:∀ys,ah m y≠some (.own ys)) (h:y≠x:=by decide) (h2:y≠z:=by decide):∀ys,ah m' y≠some (.own ys):=Zj e (LX k h) h2
theorem gn3 (e:ak (ak (ak m x s) z t) w u=m') (k:∀ys,ah m y≠some (.own ys)) (h:y≠x:=by decide) (h2:y≠z:=by decide) (h3:y≠w:=by decide):∀ys,ah m' y≠some (.own ys):=Zj e (LX (LX k h) h2) h3
end
theorem cy (h:∀ys,ah m x≠some (.own ys)):jN m x v=some (ak m x (.fz v)):=by
 unfold jN;split
 ·rename_i ys e;exact absurd e (h ys)
 ·rfl
theorem qU (h:ah m x=some (.fz v)):jQ m x=some v:=by unfold jQ;rw [h]
theorem bu {v:List V} (h:ah m x=some (.own v)):eV m x=some v:=by unfold eV;rw [h]
theorem bh (h:ah m x=none):∀ys,ah m x≠some (.own ys):=fun _ e=>no (h.symm.trans e)
theorem kI (h:ah m x=some (.fz v)):∀ys,ah m x≠some (.own ys):=fun _ e=>nomatch h.symm.trans e
noncomputable def sets (m:ao):List (Nat×Sl)→ao
 |[]=>m
 |p::l=>ak (sets m l) p.1 p.2
noncomputable def lk (d:Option Sl):List (Nat×Sl)→Nat→Option Sl
 |[],_=>d
 |p::l,y=>match Nat.beq p.1 y with
  |true=>some p.2
  |false=>lk d l y
theorem Wr {m:ao} {y:Nat}:∀l:List (Nat×Sl),ah (sets m l) y=lk (ah m y) l y
 |[]=>rfl
 |(x,s)::l=>by
  show ah (ak (sets m l) x s) y=match Nat.beq x y with|true=>some s|false=>lk (ah m y) l y
  cases h:Nat.beq x y with
  |true=>cases Nat.eq_of_beq_eq_true h;exact au ..
  |false=>exact (aR _ _ fun e=>by rw [e,Nat.beq_refl] at h;cases h).trans (Wr l)
theorem gl {r:Option Sl} (h:lk (ah m y) l y=r):ah (sets m l) y=r:=(Wr l).trans h
theorem nl (h:∀ys,lk (ah m y) l y≠some (.own ys)):∀ys,ah (sets m l) y≠some (.own ys):=fun ys e=>h ys ((Wr l).symm.trans e)
theorem cP {o:Option Sl} (h:o=some (.fz v)):∀ys,o≠some (.own ys):=fun _ e=>nomatch h.symm.trans e
section
variable {C:Calls} {K:Nat}
theorem gp (h:ev C m e=some v):lG C m e=some (v,m):=by unfold lG;rw [h]
theorem aD (h:ev C m e=some v) (hs:∀ys,ah m x≠some (.own ys)):ex C K (.asg x e) m=some (.next,ak m x (.fz v)):=bb (gp h) (by rw [cy hs];rfl)
theorem aa (h:ah m x=some (.fz v)):ev C m (.var x)=some v:=qU h
theorem aF {op:Op} {x y z:V} (h1:ev C m a=some x) (h2:ev C m b=some y) (h3:jx op x y=some z):ev C m (.bin op a b)=some z:=bb h1 (bb h2 h3)
theorem aU {op:Cp} {x y:V} {z:Bool} (h1:ev C m a=some x) (h2:ev C m b=some y) (h3:o5 op x y=some z):tr C m (.cmp op a b)=some z:=bb h1 (bb h2 h3)
theorem eW {i:PE} {xs:List V} {j:V} (h:ah m x=some (.own xs)) (h2:ev C m i=some j) (h3:jf (.lst xs) j=some v):ev C m (.aH x i)=some v:=bb (bu h) (bb h2 h3)
theorem jU {i:PE} {xs:List V} {p:Int} (h:ah m x=some (.own xs)) (h1:ev C m e=some v) (h2:ev C m i=some (.int p)) (h3:0≤p∧p<(xs.length:Int)):
  ex C K (.ie x i e) m=some (.next,ak m x (.own (xs.set p.toNat v))):=bb h1 (bb (bu h) (bb h2 (if_pos (decide_eq_true h3))))
theorem dX {t:PE} {a b:List PS} (h:tr C m t=some true):ex C K (.fH t a b) m=exs C K a m:=bb h rfl
theorem bB {t:PE} {a b:List PS} (h:tr C m t=some false):ex C K (.fH t a b) m=exs C K b m:=bb h rfl
theorem ay:ev C m (.cn v)=some v:=rfl
theorem pU {r:List PE} (h:ev C m e=some v) (k:jh C m r=some vs):jh C m (e::r)=some (v::vs):=bb h (by rw [k];rfl)
theorem v8 {x:V} (h1:ev C m a=some x):jh C m [a]=some [x]:=pU h1 rfl
theorem Bt {x y:V} (h1:ev C m a=some x) (h2:ev C m b=some y):jh C m [a,b]=some [x,y]:=pU h1 (v8 h2)
theorem Ed {c:PE} {x y z:V} (h1:ev C m a=some x) (h2:ev C m b=some y) (h3:ev C m c=some z):jh C m [a,b,c]=some [x,y,z]:=pU h1 (Bt h2 h3)
theorem iw {x:V} (h1:ev C m a=some x):ev C m (.call f [a])=C.f f [x] []:=bb (v8 h1) rfl
theorem call2 {x y:V} (h1:ev C m a=some x) (h2:ev C m b=some y):ev C m (.call f [a,b])=C.f f [x,y] []:=bb (Bt h1 h2) rfl
theorem HN {c:PE} {x y z:V} (h1:ev C m a=some x) (h2:ev C m b=some y) (h3:ev C m c=some z):ev C m (.call f [a,b,c])=C.f f [x,y,z] []:=bb (Ed h1 h2 h3) rfl
theorem Rw {x y:V} (h1:ev C m a=some x) (h2:ev C m b=some y):ev C m (.tup [a,b])=some (.tup [x,y]):=bb (Bt h1 h2) rfl
theorem IG {c:PE} {x y z:V} (h1:ev C m a=some x) (h2:ev C m b=some y) (h3:ev C m c=some z):ev C m (.tup [a,b,c])=some (.tup [x,y,z]):=bb (Ed h1 h2 h3) rfl
theorem mW {xs:List Nat} {r:Option ao} (h:∀ys,ah m x≠some (.own ys)) (k:fq (ak m x (.fz v)) xs vs=r):fq m (x::xs) (v::vs)=r:=bb (x:=jN m x v) (f:=fun m=>fq m xs vs) (cy h) k
theorem Bu {u:V} (hx:∀ys,ah m x≠some (.own ys)) (hy:∀ys,ah m y≠some (.own ys)) (hxy:y≠x):fq m [x,y] [u,v]=some (ak (ak m x (.fz u)) y (.fz v)):= mW hx (mW (by rw [aR _ _ hxy];exact hy) rfl)
theorem Bv {z:Nat} {u w:V} (hx:∀ys,ah m x≠some (.own ys)) (hy:∀ys,ah m y≠some (.own ys)) (hz:∀ys,ah m z≠some (.own ys)) (hxy:y≠x) (hxz:z≠x) (hyz:z≠y):fq m [x,y,z] [u,v,w]=some (ak (ak (ak m x (.fz u)) y (.fz v)) z (.fz w)):= mW hx (mW (by rw [aR _ _ hxy];exact hy) (mW (by rw [aR _ _ hyz,aR _ _ hxz];exact hz) rfl))
theorem Ef {u:V} (h:ev C m e=some (.tup [u,v])) (hx:∀ys,ah m x≠some (.own ys)) (hy:∀ys,ah m y≠some (.own ys)) (hxy:y≠x):
  ex C K (.l6 [x,y] e) m=some (.next,ak (ak m x (.fz u)) y (.fz v)):=bb (gp h) (by
 show (fq m [x,y] [u,v]).map _=_
 rw [Bu hx hy hxy];rfl)
theorem kJ {xs:List V} (hx:ah m x=some (.own xs)) (h:ev C m e=some v) (hl:xs.length<1000):ex C K (.app x e) m=some (.next,ak m x (.own (xs++[v]))):=bb (bu hx) (bb h (if_pos (by rw [ck];exact Nat.ble_eq.mpr (N1 hl))))
theorem aZ {x y z:V} (h1:ev C m a=some x) (h2:ev C m b=some y) (h3:jf x y=some z):ev C m (.idx a b)=some z:=bb h1 (bb h2 h3)
theorem mX {b:BI} {x y:V} (h1:ev C m a=some x) (h2:v7 b [x]=some y):ev C m (.bi b [a])=some y:=bb (v8 h1) h2
theorem Ws {b:BI} {c:PE} {x y z:V} (h1:ev C m a=some x) (h3:ev C m c=some z) (h2:v7 b [x,z]=some y):ev C m (.bi b [a,c])=some y:=bb (Bt h1 h3) h2
theorem dw (h:ev C m e=some v):ex C K (.ret e) m=some (.ret v,m):=by show (lG C m e).map _=_;rw [gp h];rfl
theorem jV {k:MT} {args:List PE} {a:V} (h1:ev C m o=some a) (h2:jh C m args=some vs) (h3:lF k a vs=some v):ev C m (.bZ k o args)=some v:=bb h1 (bb h2 h3)
theorem II {b:Bool} (h:tr C m e=some b):tr C m (.not e)=some (!b):=by show (tr C m e).map _=_;rw [h];rfl
theorem mY {x y z:V} (h1:ev C m o=some x) (h2:ev C m a=some y) (h3:ev C m b=some z) (h4:jg x (some y) (some z) none=some v):ev C m (.slc o (some a) (some b) none)=some v:= bb h1 (bb (a:=some y) (by show (ev C m a).map some=_;rw [h2];rfl) (bb (a:=some z) (by show (ev C m b).map some=_;rw [h3];rfl) h4))
theorem Wt {b:Bool}:jy (.bool b)=some b:=rfl
theorem seq1 {s:PS} {m':ao} (h:ex C K s m=some (.next,m')):exs C K [s] m=some (.next,m'):=(af h).trans aK
end
noncomputable abbrev bT (i:Int):Prop:=0≤i∧i<1000000
theorem mZ (h:bT i):0≤i∧i<9223372036854775808:=⟨h.1,Int.lt_trans h.2 (by decide)⟩
theorem yb {s:List Nat} (hi:bT i) (h:s[i.toNat]?=some c):jf (.str s) (.int i)=some (.str [c]):=by refine (if_pos (mZ hi)).trans ?_;rw [h];rfl
theorem m8 {s:List V} {c:V} (hi:bT i) (h:s[i.toNat]?=some c):jf (.lst s) (.int i)=some c:=by exact (if_pos (mZ hi).1).trans ((if_pos (mZ hi).2).trans h)
theorem Rx {s:List V} {c:V} (hi:bT i) (h:s[i.toNat]?=some c):jf (.tup s) (.int i)=some c:=by exact (if_pos (mZ hi)).trans h
theorem cA (hi:bT i):bound (some (.int i))=some (some i.toNat):=if_pos (mZ hi)
theorem iy {C:Calls} (h:ev C m e=some v):zD C m (some e)=some (some v):=by rw [qo2,h];rfl
theorem tV {C:Calls} {lo hi st:Option PE} {x:V} {l h s:Option V} (h1:ev C m o=some x) (h2:zD C m lo=some l) (h3:zD C m hi=some h) (h4:zD C m st=some s) (h5:jg x l h s=some v):ev C m (.slc o lo hi st)=some v:=bb h1 (bb h2 (bb h3 (bb h4 h5)))
theorem m9 {s:List Nat} {lo hi:Option V} {l h:Option Nat} (h1:bound lo=some l) (h2:bound hi=some h):jg (.str s) lo hi none=some (.str (cut l h s)):=bb h1 (bb h2 rfl)
theorem Bw {s:List V} {lo hi:Option V} {l h:Option Nat} (h1:bound lo=some l) (h2:bound hi=some h):jg (.lst s) lo hi none=some (.lst (cut l h s)):=bb h1 (bb h2 rfl)
theorem IJ {n:Nat} {s:List α}:cut (some n) none s=s.drop n:=congrArg (List.drop n) List.take_length
theorem Bx {n:Nat} {s:List Nat} (hi:bT i) (h:s[i.toNat]?=some c) (hc:c≠35):
  (lv ai K (n+1)).f 13 [.str s,.int i] []=some (.int i):=by
 rw [gS];have e1:ex (lv ai K n) K (.ig [.asg 46 (.idx (.var 40) (.var 5))]) [(40,.fz (.str s)),(5,.fz (.int i))]=some (.next,[(40,.fz (.str s)),(5,.fz (.int i)),(46,.fz (.str [c]))]):= seq1 (aD (aZ (aa rfl) (aa rfl) (yb hi h)) (bh rfl))
 have e2:tr (lv ai K n) [(40,.fz (.str s)),(5,.fz (.int i)),(46,.fz (.str [c]))] (.cmp .eq (.var 46) (.cn (.str [35])))=some false:=aU (aa rfl) ay (by
  show some ([c]==[35])=_
  rw [beq_eq_false_iff_ne.mpr fun e=>hc (List.cons.inj e).1])
 have e:exs (lv ai K n) K V4 [(40,.fz (.str s)),(5,.fz (.int i))]=some (.ret (.int i),[(40,.fz (.str s)),(5,.fz (.int i)),(46,.fz (.str [c]))]):= (af e1).trans ((af ((bB e2).trans aK)).trans (aY (dw (aa rfl))));exact congrArg outF e
theorem Zk {n:Nat} {s u v:List Nat} {k:Nat} {b:Bool} (hi:bT i) (h:s.drop i.toNat=u++c::v) (hc:c∉u) (hl:s.length<900000) (hu:∀x∈u,aQ k x=false):
  (lv ai K (n+1)).f 12 [.str s,.int i,.str [c]] [(44,.fW k),(45,.bool b)]=some (.int (i+(u.length:Int))):=by
 have hlen:=congrArg List.length h;simp only [List.length_drop,List.length_append,List.length_cons] at hlen;have hle:i≤(s.length:Int):=by have:=hi.1;exact N2 hlen
 have hf:(s.drop i.toNat).findIdx? (·==c)=some u.length:=by
  rw [h,List.findIdx?_append];have:u.findIdx? (·==c)=none:=List.findIdx?_eq_none_iff.mpr fun x hx=>by simp only [beq_eq_false_iff_ne,ne_eq];exact fun e=>hc (e▸hx)
  rw [this];simp [List.findIdx?_cons]
 have hm:lF .index (.str s) [.str [c],.int i]=some (.int (i+(u.length:Int))):=by show (if decide (0≤i∧i≤(s.length:Int))=true then ((s.drop i.toNat).findIdx? (·==c)).map fun (k:Nat)=>V.int (i+(k:Int)) else none)=_;rw [if_pos (decide_eq_true ⟨hi.1,hle⟩),hf];rfl
 have hi2:bT (i+(u.length:Int)):=⟨Ba hi.1,Hi hl hlen⟩;have hs:jg (.str s) (some (.int i)) (some (.int (i+(u.length:Int)))) none=some (.str u):=by
  refine (m9 (cA hi) (cA hi2)).trans ?_;simp only [cut,Option.getD_some];have e1:(i+(u.length:Int)).toNat=i.toNat+u.length:=by have:=hi.1;exact Bc this
  rw [e1,List.drop_take,h];simp
 have hd:lF .bP (.fW k) [.str u]=some (.bool true):=by
  show some (V.bool (u.all fun c=>!aQ k c))=_;have:(u.all fun c=>!aQ k c)=true:=List.all_eq_true.mpr fun x hx=>by rw [hu x hx];rfl
  rw [this]
 rw [gS];generalize hM:[(40,Sl.fz (.str s)),(5,.fz (.int i)),(43,.fz (.str [c])),(44,.fz (.fW k)),(45,.fz (.bool b))]=m;have e1:ex (lv ai K n) K (.ig [.asg 42 (.bZ .index (.var 40) [(.var 43),(.var 5)])]) m=some (.next,ak m 42 (.fz (.int (i+(u.length:Int))))):=by subst hM;exact seq1 (aD (jV (aa rfl) (Bt (aa rfl) (aa rfl)) hm) (bh rfl))
 have e2:tr (lv ai K n) (ak m 42 (.fz (.int (i+(u.length:Int))))) (.not (.bZ .bP (.var 44) [(.slc (.var 40) (some (.var 5)) (some (.var 42)) none)]))=some false:=by subst hM;exact II (b:=true) (bb (x:=ev _ _ (.var 44)) (aa rfl) (bb (v8 (mY (aa rfl) (aa rfl) (aa rfl) hs)) (by rw [hd];rfl)))
 have e:exs (lv ai K n) K Zd m=some (.ret (.int (i+(u.length:Int))),ak m 42 (.fz (.int (i+(u.length:Int))))):= (af e1).trans ((af ((bB e2).trans aK)).trans (aY (dw (aa (au ..)))));subst hM;exact congrArg outF e
theorem yc {n:Nat} {s u v:List Nat} (hi:bT i) (h:s.drop i.toNat=35::(u++10::v)) (hc:10∉u) (hl:s.length<900000) (hu:∀x∈u,aQ 1 x=false):
  (lv ai K (n+2)).f 13 [.str s,.int i] []=some (.int (i+1+(u.length:Int))):=by
 have h0:s[i.toNat]?=some 35:=by have:=congrArg (·[0]?) h;simpa using this
 have hlen:=congrArg List.length h;simp only [List.length_drop,List.length_append,List.length_cons] at hlen;have hi2:bT (i+1):=⟨A9 hi.1,Hh hl hlen⟩;have hd:s.drop (i+1).toNat=u++10::v:=by
  have e1:(i+1).toNat=i.toNat+1:=by have:=hi.1;exact Bb this
  have:=congrArg (List.drop 1) h;rw [List.drop_drop] at this;rw [e1];simpa using this
 have hs:=Zk (K:=K) (n:=n) (b:=false) hi2 hd hc hl hu;rw [gS];have e1:ex (lv ai K (n+1)) K (.ig [.asg 46 (.idx (.var 40) (.var 5))]) [(40,.fz (.str s)),(5,.fz (.int i))]=some (.next,[(40,.fz (.str s)),(5,.fz (.int i)),(46,.fz (.str [35]))]):= seq1 (aD (aZ (aa rfl) (aa rfl) (yb hi h0)) (bh rfl));have ec:ev (lv ai K (n+1)) [(40,.fz (.str s)),(5,.fz (.int i)),(46,.fz (.str [35]))] (.ic 12 [(.var 40),(.bin .add (.var 5) (.cn (.int 1))),(.cn (.str [10]))] [(44,(.gl 1)),(45,(.cn (.bool false)))])=some (.int (i+1+(u.length:Int))):= bb (x:=jh _ _ [_,_,_]) (Ed (aa rfl) (aF (aa rfl) ay rfl) ay) hs;have e:exs (lv ai K (n+1)) K V4 [(40,.fz (.str s)),(5,.fz (.int i))]=some (.ret (.int (i+1+(u.length:Int))),[(40,.fz (.str s)),(5,.fz (.int i)),(46,.fz (.str [35]))]):= (af e1).trans (aY ((dX (aU (aa rfl) ay rfl)).trans (aY (dw ec))));exact congrArg outF e
theorem Zl {C:Calls} {K:Nat} {s v:List Nat} {c:Nat} (hl:s.length<900000) (hc:aQ 0 c=false):∀(u:List Nat) (i:Int) (k:Nat),bT i→s.drop i.toNat=u++c::v→(∀x∈u,aQ 0 x=true)→u.length<k→
  tG (qT C (.cmp .isin (.idx (.var 40) (.var 5)) (.var 41))) (ir C K [.aug 5 .add (.cn (.int 1))]) k [(40,.fz (.str s)),(5,.fz (.int i)),(41,.fz (.fW 0))]=
   some (.next,[(40,.fz (.str s)),(5,.fz (.int (i+(u.length:Int)))),(41,.fz (.fW 0))])
 |[],i,k,hi,h,hu,hk=>by
  obtain ⟨k,rfl⟩:∃j,k=j+1:=⟨k-1,by simp at hk;exact D4 hk⟩;have h0:s[i.toNat]?=some c:=by have:=congrArg (·[0]?) h;simpa using this
  rw [fY (aU (y:=.fW 0) (aZ (aa rfl) (aa rfl) (yb hi h0)) (aa rfl) (by show some (aQ 0 c)=_;rw [hc]))];simp
 |x::u,i,k,hi,h,hu,hk=>by
  obtain ⟨k,rfl⟩:∃j,k=j+1:=⟨k-1,by simp at hk;exact D6 hk⟩;have h0:s[i.toNat]?=some x:=by have:=congrArg (·[0]?) h;simpa using this
  have hlen:=congrArg List.length h;simp only [List.length_drop,List.length_append,List.length_cons] at hlen;have hi2:bT (i+1):=⟨A9 hi.1,N5 hl hlen⟩;have hd:s.drop (i+1).toNat=u++c::v:=by
   have e1:(i+1).toNat=i.toNat+1:=by have:=hi.1;exact Bb this
   have:=congrArg (List.drop 1) h;rw [List.drop_drop] at this;rw [e1];simpa using this
  have ih:=Zl (C:=C) (K:=K) hl hc u (i+1) k hi2 hd (fun y hy=>hu y (by simp [hy])) (by simp at hk;omega);have e2:i+1+(u.length:Int)=i+((x::u).length:Int):=by simp;exact N7
  rw [e2] at ih;rw [jS (m':=[(40,.fz (.str s)),(5,.fz (.int (i+1))),(41,.fz (.fW 0))]) (aU (y:=.fW 0) (aZ (aa rfl) (aa rfl) (yb hi h0)) (aa rfl) (by show some (aQ 0 x)=_;rw [hu x (List.mem_cons_self ..)])) rfl];exact ih
theorem Ur {n:Nat} {s u v:List Nat} (hl:s.length<900000) (hi:bT i) (h:s.drop i.toNat=u++c::v) (hu:∀x∈u,aQ 0 x=true) (hc:aQ 0 c=false) (hk:u.length<K):
  (lv ai K (n+1)).f 11 [.str s,.int i,.fW 0] []=some (.int (i+(u.length:Int))):=by
 have hw:=Zl (C:=lv ai K n) (K:=K) hl hc u i K hi h hu hk;rw [gS];show outF (exs _ K Un [(40,.fz (.str s)),(5,.fz (.int i)),(41,.fz (.fW 0))])=_;unfold Un;have e1:ex (lv ai K n) K (.ig [.zB (.cmp .isin (.idx (.var 40) (.var 5)) (.var 41)) [.aug 5 .add (.cn (.int 1))]]) [(40,.fz (.str s)),(5,.fz (.int i)),(41,.fz (.fW 0))]=some (.next,[(40,.fz (.str s)),(5,.fz (.int (i+(u.length:Int)))),(41,.fz (.fW 0))]):=seq1 (mV.trans hw);have e:exs (lv ai K n) K Un [(40,.fz (.str s)),(5,.fz (.int i)),(41,.fz (.fW 0))]=some (.ret (.int (i+(u.length:Int))),[(40,.fz (.str s)),(5,.fz (.int (i+(u.length:Int)))),(41,.fz (.fW 0))]):= (af e1).trans (aY (dw (aa rfl)));exact congrArg outF e
theorem Wu {n:Nat} {s u v:List Nat} (hi:bT i) (h:s.drop i.toNat=39::(u++39::v)) (hc:39∉u) (hl:s.length<900000) (hu:∀x∈u,aQ 1 x=false):
  (lv ai K (n+2)).f 14 [.str s,.int i] []=some (.tup [.int (i+1+(u.length:Int)+1),.str u]):=by
 have hlen:=congrArg List.length h;simp only [List.length_drop,List.length_append,List.length_cons] at hlen;have hi2:bT (i+1):=⟨A9 hi.1,Hh hl hlen⟩;have hi3:bT (i+1+(u.length:Int)):=⟨N3 hi.1,N4 hl hlen⟩;have hd:s.drop (i+1).toNat=u++39::v:=by
  have e1:(i+1).toNat=i.toNat+1:=by have:=hi.1;exact Bb this
  have:=congrArg (List.drop 1) h;rw [List.drop_drop] at this;rw [e1];simpa using this
 have hs:=Zk (K:=K) (n:=n) (b:=true) hi2 hd hc hl hu;have hsl:jg (.str s) (some (.int (i+1))) (some (.int (i+1+(u.length:Int)))) none=some (.str u):=by
  refine (m9 (cA hi2) (cA hi3)).trans ?_;simp only [cut,Option.getD_some];have e1:(i+1+(u.length:Int)).toNat=(i+1).toNat+u.length:=by have:=hi.1;exact N6 this
  rw [e1,List.drop_take,hd];simp
 rw [gS];have e1:ex (lv ai K (n+1)) K (.asg 5 (.ic 12 [(.var 40),(.var 5),(.cn (.str [39]))] [(44,(.gl 4)),(45,(.cn (.bool true)))])) [(40,.fz (.str s)),(5,.fz (.int (i+1))),(47,.fz (.int (i+1)))]=some (.next,[(40,.fz (.str s)),(5,.fz (.int (i+1+(u.length:Int)))),(47,.fz (.int (i+1)))]):= aD (bb (Ed (aa rfl) (aa rfl) ay) hs) (kI rfl);have e2:ev (lv ai K (n+1)) [(40,.fz (.str s)),(5,.fz (.int (i+1+(u.length:Int)))),(47,.fz (.int (i+1)))] (.tup [(.bin .add (.var 5) (.cn (.int 1))),(.slc (.var 40) (some (.var 47)) (some (.var 5)) none)])=some (.tup [.int (i+1+(u.length:Int)+1),.str u]):= Rw (aF (aa rfl) ay rfl) (mY (aa rfl) (aa rfl) (aa rfl) hsl);have e:exs (lv ai K (n+1)) K Ze [(40,.fz (.str s)),(5,.fz (.int i))]=some (.ret (.tup [.int (i+1+(u.length:Int)+1),.str u]),[(40,.fz (.str s)),(5,.fz (.int (i+1+(u.length:Int)))),(47,.fz (.int (i+1)))]):= (af (m':=[(40,.fz (.str s)),(5,.fz (.int (i+1)))]) rfl).trans ((af (aD (aa rfl) (bh rfl))).trans ((af e1).trans (aY (dw e2))));exact congrArg outF e
end
noncomputable def aW (m:Nat):List Nat:=((List.range 6).filter fun i=>m.testBit i).map (·+1)
noncomputable def iz (ks:List Nat):List Nat:=ks.flatMap fun k=>47::(List.range k).map (97+·)
noncomputable def bf (m:Nat):List Nat:=if m=0 then [47] else iz (aW m)
noncomputable def pc (m:Nat):Nat:=(aW m).length
noncomputable def Zm (m:Nat):Nat:=m-2^Nat.log2 m
noncomputable def fL (m:Nat):Nat→Nat
 |0=>m
 |r+1=>fL (if m=0 then 0 else Zm m) r
noncomputable def qW (o:Option V) (l:List Nat):Bool:=match o with
 |some (.str s)=>s==l
 |_=>false
noncomputable def qX (o:Option V) (l:Int):Bool:=match o with
 |some (.int s)=>s==l
 |_=>false
theorem kK {o:Option V} {l:List Nat} (h:qW o l=true):o=some (.str l):=by
 unfold qW at h;split at h
 ·rw [eq_of_beq h]
 ·cases h
theorem iS {o:Option V} {l:Int} (h:qX o l=true):o=some (.int l):=by
 unfold qX at h;split at h
 ·rw [eq_of_beq h]
 ·cases h
theorem IK:∀m,m<64→qX ((lv ai 100 3).f 20 [.str (bf m)] []) (pc m)=true:=by decide+kernel
theorem Ry:∀m,m<64→∀r:Nat,r<3→qW ((lv ai 100 4).f 21 [.str (bf m),.int (r:Int)] []) (bf (fL m r))=true:=by decide+kernel
section
noncomputable abbrev Key:=Int×List Nat×Int
noncomputable def kv (x:Key):V:=.tup [.int x.1,.str x.2.1,.int x.2.2]
theorem HO (x y:Key):o5 .lt (kv x) (kv y)=some (aN x y):=rfl
section
variable {α:Type} (lt:α→α→Bool)
noncomputable def yd (new:α):Nat→List α→Nat→List α
 |0,xs,pos=>xs.set pos new
 |f+1,xs,pos=>if pos=0 then xs.set pos new else match xs[(pos-1)/2]? with
  |some par=>if lt new par then yd new f (xs.set pos par) ((pos-1)/2) else xs.set pos new
  |none=>xs.set pos new
theorem Rz {new:α} {xs:List α}:yd lt new 0 xs pos=xs.set pos new:=rfl
theorem tW {new:α} {xs:List α}:yd lt new (f+1) xs pos=if pos=0 then xs.set pos new else match xs[(pos-1)/2]? with
  |some par=>if lt new par then yd lt new f (xs.set pos par) ((pos-1)/2) else xs.set pos new
  |none=>xs.set pos new:=rfl
noncomputable def sup (n:Nat):Nat→List α→Nat→List α×Nat
 |0,xs,pos=>(xs,pos)
 |f+1,xs,pos=>if 2*pos+1<n then
   match xs[2*pos+1]?,xs[2*pos+2]? with
   |some a,some b=>if lt a b then sup n f (xs.set pos a) (2*pos+1) else sup n f (xs.set pos b) (2*pos+2)
   |some a,none=>sup n f (xs.set pos a) (2*pos+1)
   |_,_=>(xs,pos)
  else (xs,pos)
theorem lH {n:Nat} {xs:List α}:sup lt n (f+1) xs pos=if 2*pos+1<n then
   match xs[2*pos+1]?,xs[2*pos+2]? with
   |some a,some b=>if lt a b then sup lt n f (xs.set pos a) (2*pos+1) else sup lt n f (xs.set pos b) (2*pos+2)
   |some a,none=>sup lt n f (xs.set pos a) (2*pos+1)
   |_,_=>(xs,pos)
  else (xs,pos):=rfl
noncomputable def tX (xs:List α) (x:α):List α:=yd lt x xs.length (xs++[x]) xs.length
noncomputable def Eg (xs:List α):Option (α×List α):=match xs.getLast? with
 |none=>none
 |some last=>match xs.dropLast with
  |[]=>some (last,[])
  |a::r=>let q:=sup lt (r.length+1) (r.length+1) (last::r) 0
        some (a,yd lt last q.2 (q.1.set q.2 last) q.2)
end
section
variable {C:Calls} {K:Nat}
theorem gq {xs:List Key} {p:Int} {x:Key} (h0:0≤p) (hp:p<1000) (h:xs[p.toNat]?=some x):jf (.lst (xs.map kv)) (.int p)=some (kv x):=by refine m8 ⟨h0,by exact VK hp⟩ ?_;rw [List.getElem?_map,h];rfl
structure Wv (m:ao) (xs:List Key) (p:Int) (new:Key):Prop where
 h0:ah m 0=some (.own (xs.map kv))
 h4:ah m 4=some (.fz (kv new))
 h5:ah m 5=some (.fz (.int p))
 h6:ah m 6=some (.fz (.int 0))
 h7:∀ys,ah m 7≠some (.own ys)
 h8:∀ys,ah m 8≠some (.own ys)
noncomputable abbrev v9:List PS:=[.asg 7 (.bin .shr (.bin .sub (.var 5) (.cn (.int 1))) (.cn (.int 1))),.asg 8 (.aH 0 (.var 7)),.fH (.cmp .lt (.var 4) (.var 8)) [.ie 0 (.var 5) (.var 8),.asg 5 (.var 7),.cont] [],.brk]
theorem ye:∀(f:Nat) (p:Int) (m:ao) (xs:List Key) (new:Key) (k:Nat),Wv m xs p new→0≤p→p<(xs.length:Int)→xs.length<100→p≤(f:Int)→f<k→
  ∃m' xs' p',tG (qT C (.cmp .gt (.var 5) (.var 6))) (ir C K v9) k m=some (.next,m')∧Wv m' xs' p' new∧0≤p'∧p'<(xs'.length:Int)∧xs'.length=xs.length∧xs'.set p'.toNat new=yd aN new f xs p.toNat
 |0,p,m,xs,new,k,H,hp0,hp,hl,hf,hk=>by obtain rfl:p=0:=VL hp0 hf;obtain ⟨k,rfl⟩:∃j,k=j+1:=⟨k-1,by exact D4 hk⟩;exact ⟨m,xs,0,fY (aU (aa H.h5) (aa H.h6) rfl),H,hp0,hp,rfl,rfl⟩
 |f+1,p,m,xs,new,k,H,hp0,hp,hl,hf,hk=>by
  obtain ⟨k,rfl⟩:∃j,k=j+1:=⟨k-1,by exact D6 hk⟩
  by_cases h0:p=0
  ·subst h0;refine ⟨m,xs,0,fY (aU (aa H.h5) (aa H.h6) rfl),H,hp0,hp,rfl,?_⟩;rw [show (0:Int).toNat=0 from rfl,tW,if_pos rfl]
  ·have ht:qT C (.cmp .gt (.var 5) (.var 6)) m=some true:=aU (aa H.h5) (aa H.h6) (by
    show some (decide ((0:Int)<p))=some true
    rw [decide_eq_true (by exact VM hp0 h0)])
   obtain ⟨q,hq⟩:∃q:Int,q=(p-1)/2:=⟨_,rfl⟩;have IL:0≤q:=VN hp0 h0 hq;have Us:q<p:=VO hq IL;have hqn:q.toNat=(p.toNat-1)/2:=by rw [hq];exact half hp0 h0
   have hpar:q.toNat<xs.length:=VP hp IL Us;have hx:xs[q.toNat]?=some xs[q.toNat]:=List.getElem?_eq_getElem hpar;generalize hpv:xs[q.toNat]=pv at hx;have e7:ex C K (.asg 7 (.bin .shr (.bin .sub (.var 5) (.cn (.int 1))) (.cn (.int 1)))) m=some (.next,ak m 7 (.fz (.int q))):=
    aD (aF (aF (aa H.h5) ay rfl) ay (by
     show (if (decide ((1:Int)=1)&&decide (0≤p-1))=true then some (V.int ((p-1)/2)) else none)=_
     rw [if_pos (by simp;exact VQ IL Us),hq])) H.h7
   have e8:ex C K (.asg 8 (.aH 0 (.var 7))) (ak m 7 (.fz (.int q)))=some (.next,ak (ak m 7 (.fz (.int q))) 8 (.fz (kv pv))):= aD (eW (by rw [cE];exact H.h0) (aa (au ..)) (gq IL (VR hl hpar) hx)) (by rw [cE];exact H.h8);generalize hm2:ak (ak m 7 (.fz (.int q))) 8 (.fz (kv pv))=m2 at e8;have g0:ah m2 0=some (.own (xs.map kv)):=AS hm2 H.h0;have g4:ah m2 4=some (.fz (kv new)):=AS hm2 H.h4;have g5:ah m2 5=some (.fz (.int p)):=AS hm2 H.h5;have g6:ah m2 6=some (.fz (.int 0)):=AS hm2 H.h6;have g7:ah m2 7=some (.fz (.int q)):=Uq hm2;have g8:ah m2 8=some (.fz (kv pv)):=DX hm2;have hcmp:tr C m2 (.cmp .lt (.var 4) (.var 8))=some (aN new pv):=aU (aa g4) (aa g8) (HO _ _);cases hlt:aN new pv with
   |false=>
    rw [hlt] at hcmp;have hg:ir C K v9 m=some (.brk,m2):=by unfold ir;exact (af e7).trans ((af e8).trans ((af (m':=m2) ((bB hcmp).trans aK)).trans (qS (m':=m2) rfl)))
    refine ⟨m2,xs,p,Ec ht hg,⟨g0,g4,g5,g6,kI g7,kI g8⟩,hp0,hp,rfl,?_⟩;have hp1:p.toNat≠0:=MK IL Us;simp only [tW,hp1,↓reduceIte,←hqn,hx,hlt,Bool.false_eq_true]
   |true=>
    rw [hlt] at hcmp;have es:ex C K (.ie 0 (.var 5) (.var 8)) m2=some (.next,ak m2 0 (.own ((xs.set p.toNat pv).map kv))):=by rw [jU g0 (aa g8) (aa g5) ⟨hp0,by rw [List.length_map];exact hp⟩,List.map_set]
    have e5:ex C K (.asg 5 (.var 7)) (ak m2 0 (.own ((xs.set p.toNat pv).map kv)))=some (.next,ak (ak m2 0 (.own ((xs.set p.toNat pv).map kv))) 5 (.fz (.int q))):= aD (aa (mC g7)) (by rw [cE,g5];simp);generalize tH:ak (ak m2 0 (.own ((xs.set p.toNat pv).map kv))) 5 (.fz (.int q))=m3 at e5;have hg:ir C K v9 m=some (.cont,m3):=by unfold ir;exact (af e7).trans ((af e8).trans (tU (m':=m3) ((dX hcmp).trans (by exact (af es).trans ((af e5).trans (tU (m':=m3) rfl))))))
    have H3:Wv m3 (xs.set p.toNat pv) q new:=by
     refine ⟨?_,?_,?_,?_,?_,?_⟩
     ·rw [←tH,cE,au]
     ·rw [←tH,cE,cE];exact g4
     ·rw [←tH,au]
     ·rw [←tH,cE,cE];exact g6
     ·rw [←tH,cE,cE,g7];simp
     ·rw [←tH,cE,cE,g8];simp
    obtain ⟨m',xs',p',r1,r2,r3,r4,r5,r6⟩:=ye f q m3 (xs.set p.toNat pv) new k H3 IL (by rw [List.length_set];exact VS hpar) (by rw [List.length_set];exact hl) (VT hf hqn) (zz hk);refine ⟨m',xs',p',by rw [Bs ht hg];exact r1,r2,r3,r4,by rw [r5,List.length_set],?_⟩;rw [r6];have hp1:p.toNat≠0:=MK IL Us;simp only [tW,hp1,↓reduceIte,←hqn,hx,hlt]
end
end
variable {xs rest:List Key} {new:Key}
section
section
variable {K n:Nat}
theorem Zn {p:Int} (h0:0≤p) (hp:p<(xs.length:Int)) (hl:xs.length<100) (hK:100≤K) (hx:xs[p.toNat]?=some new):
  (lv ai K (n+1)).io 2 (xs.map kv) [.int 0,.int p]=some (.none,(yd aN new p.toNat xs p.toNat).map kv):=by
 rw [ya];show tT 0 (exs (lv ai K n) K b2 [(0,.own (xs.map kv)),(6,.fz (.int 0)),(5,.fz (.int p))])=_;unfold b2;have e4:ex (lv ai K n) K (.asg 4 (.aH 0 (.var 5))) [(0,.own (xs.map kv)),(6,.fz (.int 0)),(5,.fz (.int p))]=some (.next,ak [(0,.own (xs.map kv)),(6,.fz (.int 0)),(5,.fz (.int p))] 4 (.fz (kv new))):= aD (eW (xs:=xs.map kv) rfl (aa rfl) (gq h0 (OG hp hl) hx)) (bh rfl);rw [af e4];obtain ⟨m',xs',p',r1,r2,r3,r4,r5,r6⟩:=ye (C:=lv ai K n) (K:=K) p.toNat p (ak [(0,.own (xs.map kv)),(6,.fz (.int 0)),(5,.fz (.int p))] 4 (.fz (kv new))) xs new K
  ⟨rfl,rfl,rfl,rfl,by simp [ak,ah],by simp [ak,ah]⟩ h0 hp hl (by exact OH) (OI hp hl hK)
 rw [af (m':=m') (by rw [mV];exact r1),af (jU r2.h0 (aa r2.h4) (aa r2.h5) ⟨r3,by rw [List.length_map];exact r4⟩),aK];show (eV (ak m' 0 _) 0).map _=_;rw [bu (au ..),←List.map_set,r6];rfl
theorem io0 {x:Key} (hl:xs.length<90) (hK:100≤K):(lv ai K (n+2)).io 0 (xs.map kv) [kv x]=some (.none,(tX aN xs x).map kv):=by
 rw [ya];show tT 0 (exs (lv ai K (n+1)) K b0 [(0,.own (xs.map kv)),(1,.fz (kv x))])=_;unfold b0;have ea:ex (lv ai K (n+1)) K (.app 0 (.var 1)) [(0,.own (xs.map kv)),(1,.fz (kv x))]=some (.next,[(0,.own ((xs++[x]).map kv)),(1,.fz (kv x))]):=by rw [qx5,bu rfl,aa (v:=kv x) rfl];simp only [Option.bind_some];rw [if_pos (by rw [ck,List.length_map];exact Nat.ble_eq.mpr (OJ hl)),List.map_append];rfl
 obtain ⟨q,hq⟩:∃q:Int,q=(xs.length:Int):=⟨_,rfl⟩
 have hi:=Zn (K:=K) (n:=n) (xs:=xs++[x]) (p:=q) (new:=x) (lD hq) (by rw [List.length_append,List.length_singleton];exact OL hq) (by rw [List.length_append,List.length_singleton];exact G8 hl) hK (by
  have:q.toNat=xs.length:=o4 hq
  rw [this];simp)
 have eb:ex (lv ai K (n+1)) K (.io 2 0 [(.cn (.int 0)),(.bin .sub (.cR 0) (.cn (.int 1)))]) [(0,.own ((xs++[x]).map kv)),(1,.fz (kv x))]=some (.next,[(0,.own ((yd aN x q.toNat (xs++[x]) q.toNat).map kv)),(1,.fz (kv x))]):=by
  have hv:jh (lv ai K (n+1)) [(0,.own ((xs++[x]).map kv)),(1,.fz (kv x))] [(.cn (.int 0)),(.bin .sub (.cR 0) (.cn (.int 1)))]=some [.int 0,.int q]:=by
   have e1:ev (lv ai K (n+1)) [(0,.own ((xs++[x]).map kv)),(1,.fz (kv x))] (.cR 0)=some (.int (q+1)):=by rw [Rv,bu rfl];show some (V.int ((((xs++[x]).map kv).length:Nat):Int))=_;rw [List.length_map,List.length_append,List.length_singleton,hq];rfl
   have e2:ev (lv ai K (n+1)) [(0,.own ((xs++[x]).map kv)),(1,.fz (kv x))] (.bin .sub (.cR 0) (.cn (.int 1)))=some (.int q):=aF e1 ay (by
    show some (V.int (q+1-1))=_
    rw [Int.add_sub_cancel])
   rw [jR,ay,jR,e2,jO];rfl
  rw [Up,bu rfl,hv];simp only [Option.bind_some];rw [hi];rfl
 rw [af ea,af eb,aK];have hq2:q.toNat=xs.length:=o4 hq;rw [hq2];rfl
structure Ut (m:ao) (xs:List Key) (p l:Int) (new:Key):Prop where
 h0:ah m 0=some (.own (xs.map kv))
 h4:ah m 4=some (.fz (kv new))
 h5:ah m 5=some (.fz (.int p))
 h6:ah m 6=some (.fz (.int 0))
 h9:ah m 9=some (.fz (.int l))
 Uu:ah m 10=some (.fz (.int (2*p+1)))
 h11:∀ys,ah m 11≠some (.own ys)
noncomputable abbrev wc:List PS:=[.asg 11 (.bin .add (.var 10) (.cn (.int 1))),.fH (.and (.cmp .lt (.var 11) (.var 9)) (.not (.cmp .lt (.aH 0 (.var 10)) (.aH 0 (.var 11))))) [.asg 10 (.var 11)] [],.ie 0 (.var 5) (.aH 0 (.var 10)),.asg 5 (.var 10),.asg 10 (.bin .add (.bin .mul (.cn (.int 2)) (.var 5)) (.cn (.int 1)))]
theorem yf {C:Calls}:∀(f:Nat) (p l:Int) (m:ao) (xs:List Key) (new:Key) (k:Nat),Ut m xs p l new→0≤p→p<l→l=(xs.length:Int)→xs.length<100→l≤p+(f:Int)→f<k→
  ∃m' p',tG (qT C (.cmp .lt (.var 10) (.var 9))) (ir C K wc) k m=some (.next,m')∧Ut m' (sup aN xs.length f xs p.toNat).1 p' l new∧0≤p'∧p'<l∧p'.toNat=(sup aN xs.length f xs p.toNat).2∧(sup aN xs.length f xs p.toNat).1.length=xs.length
 |0,p,l,m,xs,new,k,H,hp0,hp,hl,hl2,hf,hk=>by exact (OM hp hf).elim
 |f+1,p,l,m,xs,new,k,H,hp0,hp,hl,hl2,hf,hk=>by
  obtain ⟨k,rfl⟩:∃j,k=j+1:=⟨k-1,by exact D6 hk⟩
  by_cases hc:2*p+1<l
  ·have ht:qT C (.cmp .lt (.var 10) (.var 9)) m=some true:=aU (aa H.Uu) (aa H.h9) (by
    show some (decide (2*p+1<l))=_
    rw [decide_eq_true hc])
   have hcn:2*p.toNat+1<xs.length:=ON hp0 hl hc;have hx:xs[2*p.toNat+1]?=some xs[2*p.toNat+1]:=List.getElem?_eq_getElem hcn;have hx':xs[(2*p+1).toNat]?=some xs[2*p.toNat+1]:=by rw [show (2*p+1).toNat=2*p.toNat+1 by exact Ho hp0];exact hx
   generalize xs[2*p.toNat+1]=a at hx hx';have LY:ex C K (.asg 11 (.bin .add (.var 10) (.cn (.int 1)))) m=some (.next,ak m 11 (.fz (.int (2*p+1+1)))):=aD (aF (aa H.Uu) ay rfl) H.h11;generalize hm1:ak m 11 (.fz (.int (2*p+1+1)))=m1 at LY;have g0:ah m1 0=some (.own (xs.map kv)):=zF hm1 H.h0;have g4:ah m1 4=some (.fz (kv new)):=zF hm1 H.h4;have g5:ah m1 5=some (.fz (.int p)):=zF hm1 H.h5;have g6:ah m1 6=some (.fz (.int 0)):=zF hm1 H.h6;have g9:ah m1 9=some (.fz (.int l)):=zF hm1 H.h9;have Uv:ah m1 10=some (.fz (.int (2*p+1))):=zF hm1 H.Uu;have IM:ah m1 11=some (.fz (.int (2*p+1+1))):=DX hm1;have ia:ev C m1 (.aH 0 (.var 10))=some (kv a):=eW g0 (aa Uv) (gq (Hq hp0) (OO hl2 hcn) hx');have rest:∀(c:Int) (x:Key) (m2:ao),ah m2 0=some (.own (xs.map kv))→ah m2 4=some (.fz (kv new))→ah m2 5=some (.fz (.int p))→ah m2 6=some (.fz (.int 0))→ah m2 9=some (.fz (.int l))→ah m2 10=some (.fz (.int c))→ah m2 11=some (.fz (.int (2*p+1+1)))→
     0≤c→c<l→p<c→xs[c.toNat]?=some x→
     ex C K (.fH (.and (.cmp .lt (.var 11) (.var 9)) (.not (.cmp .lt (.aH 0 (.var 10)) (.aH 0 (.var 11))))) [.asg 10 (.var 11)] []) m1=some (.next,m2)→
     sup aN xs.length (f+1) xs p.toNat=sup aN xs.length f (xs.set p.toNat x) c.toNat→
     ∃m' p',tG (qT C (.cmp .lt (.var 10) (.var 9))) (ir C K wc) (k+1) m=some (.next,m')∧Ut m' (sup aN xs.length (f+1) xs p.toNat).1 p' l new∧0≤p'∧p'<l∧p'.toNat=(sup aN xs.length (f+1) xs p.toNat).2∧(sup aN xs.length (f+1) xs p.toNat).1.length=xs.length:=by
    intro c x m2 k0 k4 k5 k6 k9 Ww k11 c0 c1 c2 Uw eif IP;have ix:ev C m2 (.aH 0 (.var 10))=some (kv x):=eW k0 (aa Ww) (gq c0 (OP hl hl2 c1) Uw);have es:=jU (C:=C) (K:=K) k0 ix (aa k5) ⟨hp0,by rw [List.length_map];exact OQ hcn⟩;rw [←List.map_set] at es;generalize tH:ak m2 0 (.own ((xs.set p.toNat x).map kv))=m3 at es;have e5:ex C K (.asg 5 (.var 10)) m3=some (.next,ak m3 5 (.fz (.int c))):=aD (aa (by rw [←tH,cE];exact Ww)) (by rw [←tH,cE,k5];simp);have hmul:jx .mul (.int 2) (.int c)=some (.int (2*c)):=by refine if_pos ?_;simp only [small,Bool.and_eq_true,decide_eq_true_eq];constructor <;>omega
    have LZ:ex C K (.asg 10 (.bin .add (.bin .mul (.cn (.int 2)) (.var 5)) (.cn (.int 1)))) (ak m3 5 (.fz (.int c)))=some (.next,ak (ak m3 5 (.fz (.int c))) 10 (.fz (.int (2*c+1)))):= aD (aF (aF ay (aa (au ..)) hmul) ay rfl) (by rw [cE,←tH,cE,Ww];simp);generalize IQ:ak (ak m3 5 (.fz (.int c))) 10 (.fz (.int (2*c+1)))=m4 at LZ;have hg:ir C K wc m=some (.next,m4):=by unfold ir;exact (af LY).trans ((af eif).trans ((af es).trans ((af e5).trans ((af LZ).trans aK))))
    have H4:Ut m4 (xs.set p.toNat x) c l new:=by
     refine ⟨?_,?_,?_,?_,?_,?_,?_⟩
     ·rw [←IQ,cE,cE,←tH,au]
     ·rw [←IQ,cE,cE,←tH,cE];exact k4
     ·rw [←IQ,cE,au]
     ·rw [←IQ,cE,cE,←tH,cE];exact k6
     ·rw [←IQ,cE,cE,←tH,cE];exact k9
     ·rw [←IQ,au]
     ·rw [←IQ,cE,cE,←tH,cE,k11];simp
    obtain ⟨m',p',r1,r2,r3,r4,r5,r6⟩:=yf f c l m4 (xs.set p.toNat x) new k H4 c0 c1 (by rw [List.length_set];exact hl) (by rw [List.length_set];exact hl2) (OR hf c2) (zz hk);rw [List.length_set] at r2 r5 r6;refine ⟨m',p',by rw [jS ht hg];exact r1,?_,r3,r4,?_,?_⟩
    ·rw [IP];exact r2
    ·rw [IP];exact r5
    ·rw [IP];exact r6
   by_cases hr:2*p+1+1<l
   ·have Zo:2*p.toNat+2<xs.length:=OS hp0 hl hr;have hy:xs[2*p.toNat+2]?=some xs[2*p.toNat+2]:=List.getElem?_eq_getElem Zo;have hy':xs[(2*p+1+1).toNat]?=some xs[2*p.toNat+2]:=by rw [Y8 hp0];exact hy
    generalize xs[2*p.toNat+2]=bb at hy hy';have ib:ev C m1 (.aH 0 (.var 11))=some (kv bb):=eW g0 (aa IM) (gq (Hs hp0) (OT hl2 Zo) hy')
    have t1:tr C m1 (.cmp .lt (.var 11) (.var 9))=some true:=aU (aa IM) (aa g9) (by
     show some (decide (2*p+1+1<l))=_
     rw [decide_eq_true hr])
    have t2:tr C m1 (.cmp .lt (.aH 0 (.var 10)) (.aH 0 (.var 11)))=some (aN a bb):=aU ia ib (HO _ _);have tt:tr C m1 (.and (.cmp .lt (.var 11) (.var 9)) (.not (.cmp .lt (.aH 0 (.var 10)) (.aH 0 (.var 11)))))=some (!aN a bb):=by rw [Wh,t1,Option.bind_some,if_pos rfl,qt1,t2];rfl
    cases hlt:aN a bb with
    |true=> rw [hlt] at tt;refine rest (2*p+1) a m1 g0 g4 g5 g6 g9 Uv IM (Hq hp0) hc (OU hp0) hx' ((bB tt).trans aK) ?_;have e1:(2*p+1).toNat=2*p.toNat+1:=Ho hp0;rw [e1];simp only [lH,hcn,↓reduceIte,hx,hy,hlt]
    |false=> rw [hlt] at tt;refine rest (2*p+1+1) bb (ak m1 10 (.fz (.int (2*p+1+1)))) (mC g0) (mC g4) (mC g5) (mC g6) (mC g9) (au ..) (mC IM) (Hs hp0) hr (OV hp0) hy' ((dX tt).trans (by exact (af (aD (aa IM) (kI Uv))).trans aK)) ?_;rw [Y8 hp0];simp only [lH,hcn,↓reduceIte,hx,hy,hlt,Bool.false_eq_true]
   ·have hy:xs[2*p.toNat+2]?=none:=List.getElem?_eq_none (OW hl hr)
    have t1:tr C m1 (.cmp .lt (.var 11) (.var 9))=some false:=aU (aa IM) (aa g9) (by
     show some (decide (2*p+1+1<l))=_
     rw [decide_eq_false hr])
    have tt:tr C m1 (.and (.cmp .lt (.var 11) (.var 9)) (.not (.cmp .lt (.aH 0 (.var 10)) (.aH 0 (.var 11)))))=some false:=by rw [Wh,t1,Option.bind_some,if_neg (by decide)]
    refine rest (2*p+1) a m1 g0 g4 g5 g6 g9 Uv IM (OX hl hcn hr) hc (OY hl hcn hr) hx' ((bB tt).trans aK) ?_;have e1:(2*p+1).toNat=2*p.toNat+1:=OZ hl hcn hr;rw [e1];simp only [lH,hcn,↓reduceIte,hx,hy]
  ·have hcn:¬2*p.toNat+1<xs.length:=O0 hl hc;have es:sup aN xs.length (f+1) xs p.toNat=(xs,p.toNat):=by simp only [lH,hcn,↓reduceIte]
   refine ⟨m,p,fY (aU (aa H.Uu) (aa H.h9) (by
    show some (decide (2*p+1<l))=_
    rw [decide_eq_false hc])),?_,hp0,hp,?_,?_⟩ <;>rw [es]
   exact H
end
end
section
section
variable {K n:Nat}
theorem io3 {r:List Key} (hl:r.length<90) (hK:100≤K):
  (lv ai K (n+2)).io 3 ((new::r).map kv) [.int 0]=some (.none,(yd aN new (sup aN (r.length+1) (r.length+1) (new::r) 0).2 ((sup aN (r.length+1) (r.length+1) (new::r) 0).1.set (sup aN (r.length+1) (r.length+1) (new::r) 0).2 new) (sup aN (r.length+1) (r.length+1) (new::r) 0).2).map kv):=by
 rw [ya];show tT 0 (exs (lv ai K (n+1)) K b3 [(0,.own ((new::r).map kv)),(5,.fz (.int 0))])=_;unfold b3;obtain ⟨l,hq⟩:∃q:Int,q=((new::r).length:Int):=⟨_,rfl⟩;have hlr:l=(r.length:Int)+1:=by rw [hq,List.length_cons];exact Nx
 have e9:ex (lv ai K (n+1)) K (.asg 9 (.cR 0)) [(0,.own ((new::r).map kv)),(5,.fz (.int 0))]=some (.next,[(0,.own ((new::r).map kv)),(5,.fz (.int 0)),(9,.fz (.int l))]):=by refine aD (v:=.int l) ?_ (bh rfl);rw [Rv,bu rfl];show some (V.int ((((new::r).map kv).length:Nat):Int))=_;rw [List.length_map,←hq]
 have e6:ex (lv ai K (n+1)) K (.asg 6 (.var 5)) [(0,.own ((new::r).map kv)),(5,.fz (.int 0)),(9,.fz (.int l))]=some (.next,[(0,.own ((new::r).map kv)),(5,.fz (.int 0)),(9,.fz (.int l)),(6,.fz (.int 0))]):= aD (aa rfl) (bh rfl);have e4:ex (lv ai K (n+1)) K (.asg 4 (.aH 0 (.var 5))) [(0,.own ((new::r).map kv)),(5,.fz (.int 0)),(9,.fz (.int l)),(6,.fz (.int 0))]=some (.next,[(0,.own ((new::r).map kv)),(5,.fz (.int 0)),(9,.fz (.int l)),(6,.fz (.int 0)),(4,.fz (kv new))]):= aD (eW (xs:=(new::r).map kv) rfl (aa rfl) (gq (by decide) (by decide) rfl)) (bh rfl);have LZ:ex (lv ai K (n+1)) K (.asg 10 (.bin .add (.bin .mul (.cn (.int 2)) (.var 5)) (.cn (.int 1)))) [(0,.own ((new::r).map kv)),(5,.fz (.int 0)),(9,.fz (.int l)),(6,.fz (.int 0)),(4,.fz (kv new))]=some (.next,[(0,.own ((new::r).map kv)),(5,.fz (.int 0)),(9,.fz (.int l)),(6,.fz (.int 0)),(4,.fz (kv new)),(10,.fz (.int (2*0+1)))]):= aD (aF (aF ay (aa rfl) rfl) ay rfl) (bh rfl);rw [af e9,af e6,af e4,af LZ];obtain ⟨m',p',r1,r2,r3,r4,r5,r6⟩:=yf (C:=lv ai K (n+1)) (K:=K) (r.length+1) 0 l [(0,.own ((new::r).map kv)),(5,.fz (.int 0)),(9,.fz (.int l)),(6,.fz (.int 0)),(4,.fz (kv new)),(10,.fz (.int (2*0+1)))] (new::r) new K
  ⟨rfl,rfl,rfl,rfl,rfl,rfl,by simp [ah]⟩ (by decide) (Ny hlr) hq (by rw [List.length_cons];exact G8 hl) (Nz hlr) (NB hl hK)
 rw [af (m':=m') (by rw [mV];exact r1)];simp only [List.length_cons,Int.toNat_zero] at r2 r5 r6;generalize RA:sup aN (r.length+1) (r.length+1) (new::r) 0=q at r2 r5 r6;have es:=jU (C:=lv ai K (n+1)) (K:=K) r2.h0 (aa r2.h4) (aa r2.h5) ⟨r3,by rw [List.length_map,r6];exact NC hlr r4⟩;rw [af es,←List.map_set,r5];have hi:=Zn (K:=K) (n:=n) (xs:=q.1.set q.2 new) (p:=p') (new:=new) r3 (by rw [List.length_set];omega) (by rw [List.length_set];omega) hK (by rw [r5];exact List.getElem?_set_self (by omega));have ei:ex (lv ai K (n+1)) K (.io 2 0 [(.var 6),(.var 5)]) (ak m' 0 (.own ((q.1.set q.2 new).map kv)))=some (.next,ak (ak m' 0 (.own ((q.1.set q.2 new).map kv))) 0 (.own ((yd aN new p'.toNat (q.1.set q.2 new) p'.toNat).map kv))):=by have v6:ev (lv ai K (n+1)) (ak m' 0 (.own ((q.1.set q.2 new).map kv))) (.var 6)=some (.int 0):=aa (mC r2.h6);have v5:ev (lv ai K (n+1)) (ak m' 0 (.own ((q.1.set q.2 new).map kv))) (.var 5)=some (.int p'):=aa (mC r2.h5);rw [Up,bu (au ..),jR,v6,jR,v5,jO];simp only [Option.bind_some,Option.map_some];rw [hi];rfl
 rw [af ei,aK];show (eV _ 0).map _=_;rw [bu (au ..),r5];rfl
theorem io1 {a:Key} (hl:xs.length<90) (hK:100≤K) (h:Eg aN xs=some (a,rest)):(lv ai K (n+3)).io 1 (xs.map kv) []=some (kv a,rest.map kv):=by
 rw [ya];show tT 0 (exs (lv ai K (n+2)) K b1 [(0,.own (xs.map kv))])=_;unfold b1;unfold Eg at h;cases hx:xs.getLast? with
 |none=>rw [hx] at h;cases h
 |some last=>
  rw [hx] at h;simp only at h;have ep:ex (lv ai K (n+2)) K (.lE 2 0) [(0,.own (xs.map kv))]=some (.next,[(0,.own (xs.dropLast.map kv)),(2,.fz (kv last))]):=by rw [qx7,bu rfl];simp only [Option.bind_some];rw [List.getLast?_map,hx,←List.map_dropLast];rfl
  rw [af ep];cases hd:xs.dropLast with
  |nil=> rw [hd] at h;simp only [Option.some.injEq,Prod.mk.injEq] at h;obtain ⟨rfl,rfl⟩:=h;have ei:ex (lv ai K (n+2)) K (.fH (.cJ 0) [.asg 3 (.aH 0 (.cn (.int 0))),.ie 0 (.cn (.int 0)) (.var 2),.io 3 0 [(.cn (.int 0))],.ret (.var 3)] []) [(0,.own (([]:List Key).map kv)),(2,.fz (kv last))]=some (.next,[(0,.own (([]:List Key).map kv)),(2,.fz (kv last))]):= (bB (by rw [Uo,bu rfl];rfl)).trans aK;rw [af ei,aY (v:=kv last) (m':=[(0,.own (([]:List Key).map kv)),(2,.fz (kv last))]) (by rw [Br,lG,aa rfl];rfl)];rfl
  |cons b r=>
   rw [hd] at h;simp only [Option.some.injEq,Prod.mk.injEq] at h;obtain ⟨rfl,rfl⟩:=h;have hlen:=congrArg List.length hd;rw [List.length_dropLast,List.length_cons] at hlen;have hi:=io3 (K:=K) (n:=n) (r:=r) (new:=last) (Nu hl hlen) hK;have e3:ex (lv ai K (n+2)) K (.asg 3 (.aH 0 (.cn (.int 0)))) [(0,.own ((b::r).map kv)),(2,.fz (kv last))]=some (.next,[(0,.own ((b::r).map kv)),(2,.fz (kv last)),(3,.fz (kv b))]):= aD (eW (xs:=(b::r).map kv) rfl ay (gq (by decide) (by decide) rfl)) (bh rfl);have es:ex (lv ai K (n+2)) K (.ie 0 (.cn (.int 0)) (.var 2)) [(0,.own ((b::r).map kv)),(2,.fz (kv last)),(3,.fz (kv b))]=some (.next,[(0,.own ((last::r).map kv)),(2,.fz (kv last)),(3,.fz (kv b))]):= jU (xs:=(b::r).map kv) (p:=0) rfl (aa rfl) ay ⟨by decide,by rw [List.length_map,List.length_cons];exact Nv⟩;generalize hS:(yd aN last (sup aN (r.length+1) (r.length+1) (last::r) 0).2 ((sup aN (r.length+1) (r.length+1) (last::r) 0).1.set (sup aN (r.length+1) (r.length+1) (last::r) 0).2 last) (sup aN (r.length+1) (r.length+1) (last::r) 0).2)=S at hi;have ei:ex (lv ai K (n+2)) K (.io 3 0 [(.cn (.int 0))]) [(0,.own ((last::r).map kv)),(2,.fz (kv last)),(3,.fz (kv b))]=some (.next,[(0,.own (S.map kv)),(2,.fz (kv last)),(3,.fz (kv b))]):=by rw [Up,bu rfl,jR,ay,jO];simp only [Option.bind_some,Option.map_some];rw [hi];rfl
   have et:ex (lv ai K (n+2)) K (.fH (.cJ 0) [.asg 3 (.aH 0 (.cn (.int 0))),.ie 0 (.cn (.int 0)) (.var 2),.io 3 0 [(.cn (.int 0))],.ret (.var 3)] []) [(0,.own ((b::r).map kv)),(2,.fz (kv last))]=some (.ret (kv b),[(0,.own (S.map kv)),(2,.fz (kv last)),(3,.fz (kv b))]):= (dX (by rw [Uo,bu rfl];rfl)).trans (by rw [af e3,af es,af ei,aY (by rw [Br,lG,aa rfl];rfl)]);rw [aY et];rfl
end
end
noncomputable def ky (xs:List Key) (i:Nat):Int:=match xs[i]? with
 |some x=>x.1
 |none=>0
theorem eX {i:Nat} {x:Key} (h:xs[i]?=some x):ky xs i=x.1:=by unfold ky;rw [h]
theorem fM {p:Nat} {x:Key} (hp:p<xs.length):ky (xs.set p x) p=x.1:=eX (List.getElem?_set_self hp)
theorem bC {p i:Nat} {x:Key} (h:i≠p):ky (xs.set p x) i=ky xs i:=by unfold ky;rw [List.getElem?_set_ne (Ne.symm h)]
theorem RB {x y:Key} (h:aN x y=true):x.1≤y.1:=by
 unfold aN at h
 by_cases e:x.1=y.1
 ·exact oq1 e
 ·rw [if_neg e,decide_eq_true_eq] at h;exact oq3 h
theorem RC {x y:Key} (h:aN x y=false):y.1≤x.1:=by
 unfold aN at h
 by_cases e:x.1=y.1
 ·exact oq0 e
 ·rw [if_neg e,decide_eq_false_iff_not] at h;exact oq2 h
noncomputable def Heap (xs:List Key):Prop:=∀i,0<i→i<xs.length→ky xs ((i-1)/2)≤ky xs i
theorem fill (hp:pos<xs.length)
  (ha:∀i,0<i→i<xs.length→i≠pos→(i-1)/2≠pos→ky xs ((i-1)/2)≤ky xs i)
  (hb:∀c,0<c→c<xs.length→(c-1)/2=pos→new.1≤ky xs c)
  (hd:0<pos→ky xs ((pos-1)/2)≤new.1):Heap (xs.set pos new):=by
 intro i h0 hi;rw [List.length_set] at hi
 by_cases e1:i=pos
 ·subst e1;rw [fM hp,bC (by exact Y9 h0)];exact hd h0
 ·rw [bC e1]
  by_cases e2:(i-1)/2=pos
  ·rw [e2,fM hp];exact hb i h0 hi e2
  ·rw [bC e2];exact ha i h0 hi e1 e2
theorem nc {new:Key}:∀(f:Nat) (xs:List Key) (pos:Nat),pos≤f→pos<xs.length→
  (∀i,0<i→i<xs.length→i≠pos→(i-1)/2≠pos→ky xs ((i-1)/2)≤ky xs i)→
  (∀c,0<c→c<xs.length→(c-1)/2=pos→new.1≤ky xs c)→
  (0<pos→∀c,0<c→c<xs.length→(c-1)/2=pos→ky xs ((pos-1)/2)≤ky xs c)→Heap (yd aN new f xs pos)
 |0,xs,pos,hf,hp,ha,hb,hc=>by rw [Rz];exact fill hp ha hb (oq4 hf)
 |f+1,xs,pos,hf,hp,ha,hb,hc=>by
  rw [tW]
  by_cases h0:pos=0
  ·rw [if_pos h0];exact fill hp ha hb (oq6 h0)
  ·rw [if_neg h0];have hq:(pos-1)/2<xs.length:=Uj hp;have hx:xs[(pos-1)/2]?=some xs[(pos-1)/2]:=List.getElem?_eq_getElem hq;generalize xs[(pos-1)/2]=par at hx;have kp:=eX hx;rw [hx];simp only;cases hlt:aN new par with
   |false=> have:=RC hlt;simp only [Bool.false_eq_true,↓reduceIte];exact fill hp ha hb (by intro _;exact Vf kp this)
   |true=>
    have hle:=RB hlt;simp only [↓reduceIte];refine nc f (xs.set pos par) ((pos-1)/2) (Vk hf) (by rw [List.length_set];omega) ?_ ?_ ?_
    ·intro i i0 il i1 i2;rw [List.length_set] at il;have e1:i≠pos:=by rintro rfl;exact i2 rfl
     rw [bC e1]
     by_cases e2:(i-1)/2=pos
     ·rw [e2,fM hp,←kp];exact hc (Vn i2 e2) i i0 il e2
     ·rw [bC e2];exact ha i i0 il e1 e2
    ·intro c c0 cl ce;rw [List.length_set] at cl
     by_cases e1:c=pos
     ·subst e1;rw [fM hp];exact hle
     ·rw [bC e1];have:=ha c c0 cl e1 (Vq h0 ce);rw [ce] at this;exact Vr kp hle this
    ·intro q0 c c0 cl ce;rw [List.length_set] at cl;have hpp:=ha ((pos-1)/2) q0 hq (Vt q0) (MB q0);rw [bC (show ((pos-1)/2-1)/2≠pos by exact MB q0)]
     by_cases e1:c=pos
     ·subst e1;rw [fM hp];exact Vx kp hpp
     ·rw [bC e1];have:=ha c c0 cl e1 (Vz q0 ce);rw [ce] at this;exact Ms hpp this
theorem tY:∀(f:Nat) (xs:List Key) (pos:Nat),xs.length≤pos+f→pos<xs.length→
  (∀i,0<i→i<xs.length→i≠pos→(i-1)/2≠pos→ky xs ((i-1)/2)≤ky xs i)→
  (0<pos→∀c,0<c→c<xs.length→(c-1)/2=pos→ky xs ((pos-1)/2)≤ky xs c)→
  ∃ys q,sup aN xs.length f xs pos=(ys,q)∧ys.length=xs.length∧q<xs.length∧xs.length≤2*q+1∧
   (∀i,0<i→i<xs.length→i≠q→(i-1)/2≠q→ky ys ((i-1)/2)≤ky ys i)∧∀new:Key,(ys.set q new).Perm (xs.set pos new)
 |0,xs,pos,hf,hp,ha,hc=>by exact (oq7 hf hp).elim
 |f+1,xs,pos,hf,hp,ha,hc=>by
  by_cases hcn:2*pos+1<xs.length
  ·have hx:xs[2*pos+1]?=some xs[2*pos+1]:=List.getElem?_eq_getElem hcn;have step:∀(c:Nat) (x:Key),c<xs.length→0<c→(c-1)/2=pos→pos<c→xs[c]?=some x→
     (∀j,0<j→j<xs.length→(j-1)/2=pos→x.1≤ky xs j)→
     sup aN xs.length (f+1) xs pos=sup aN xs.length f (xs.set pos x) c→
     ∃ys q,sup aN xs.length (f+1) xs pos=(ys,q)∧ys.length=xs.length∧q<xs.length∧xs.length≤2*q+1∧
      (∀i,0<i→i<xs.length→i≠q→(i-1)/2≠q→ky ys ((i-1)/2)≤ky ys i)∧∀new:Key,(ys.set q new).Perm (xs.set pos new):=by
    intro c x hcl hc0 hce hcp Uw hmin hs;have kx:=eX Uw
    obtain ⟨ys,q,r1,r2,r3,r4,r5,r6⟩:=tY f (xs.set pos x) c (by rw [List.length_set];exact Ve hf hcp) (by rw [List.length_set];omega) (by
     intro i i0 il i1 i2;rw [List.length_set] at il
     by_cases e1:i=pos
     ·subst e1;rw [fM hp,bC (by exact Y9 i0),←kx];exact hc i0 c hc0 hcl hce
     ·rw [bC e1]
      by_cases e2:(i-1)/2=pos
      ·rw [e2,fM hp];exact hmin i i0 il e2
      ·rw [bC e2];exact ha i i0 il e1 e2) (by
     intro _ d d0 dl de;rw [List.length_set] at dl;rw [hce,fM hp,bC (by exact Mw hcp de),←kx];have:=ha d d0 dl (Mw hcp de) (Vm hcp de);rw [de] at this
     exact this)
    rw [List.length_set] at r1 r2 r3 r4 r5;refine ⟨ys,q,hs.trans r1,r2,r3,r4,r5,fun new=>(r6 new).trans ?_⟩;have RD:=List.set_set_perm (as:=xs.set pos new) (i:=pos) (j:=c) (by rw [List.length_set];omega) (by rw [List.length_set];omega);have e1:(xs.set pos new)[c]'(by rw [List.length_set];omega)=x:=by rw [List.getElem_set_ne (by exact Vo hcp)];exact (List.getElem?_eq_some_iff.mp Uw).2
    have e2:(xs.set pos new)[pos]'(by rw [List.length_set];omega)=new:=by rw [List.getElem_set_self]
    rw [e1,e2,List.set_set] at RD;exact RD
   cases hy:xs[2*pos+2]? with
   |none=> have hlen:=List.getElem?_eq_none_iff.mp hy;refine step (2*pos+1) _ hcn (by exact My) (by exact Mz) (by exact MA) hx ?_ (by rw [lH,if_pos hcn,hx,hy]);intro j j0 jl je;have:j=2*pos+1:=Vs hlen j0 jl je;rw [this,eX hx];exact Int.le_refl _
   |some b=>
    have Ux:2*pos+2<xs.length:=(List.getElem?_eq_some_iff.mp hy).1;cases hlt:aN xs[2*pos+1] b with
    |true=>
     refine step (2*pos+1) _ hcn (by exact My) (by exact Mz) (by exact MA) hx ?_ (by rw [lH,if_pos hcn,hx,hy];simp only [hlt,↓reduceIte]);intro j j0 jl je;rcases kid j0 je with q|q
     ·rw [q,eX hx];exact Int.le_refl _
     ·rw [q,eX hy];exact RB hlt
    |false=>
     refine step (2*pos+2) _ Ux (by exact Vu) (by exact Vv) (by exact Vw) hy ?_ (by rw [lH,if_pos hcn,hx,hy];simp only [hlt,Bool.false_eq_true,↓reduceIte]);intro j j0 jl je;rcases kid j0 je with q|q
     ·rw [q,eX hx];exact RC hlt
     ·rw [q,eX hy];exact Int.le_refl _
  ·exact ⟨xs,pos,by rw [lH,if_neg hcn],rfl,hp,by exact Vy hcn,ha,fun _=>.refl _⟩
theorem ng {new:Key}:∀(f:Nat) (xs:List Key) (pos:Nat),pos<xs.length→(yd aN new f xs pos).Perm (xs.set pos new)
 |0,xs,pos,hp=>.refl _
 |f+1,xs,pos,hp=>by
  rw [tW]
  by_cases h0:pos=0
  ·rw [if_pos h0]
  ·rw [if_neg h0];have hq:(pos-1)/2<xs.length:=Uj hp;have hx:xs[(pos-1)/2]?=some xs[(pos-1)/2]:=List.getElem?_eq_getElem hq;rw [hx];simp only;cases hlt:aN new xs[(pos-1)/2] with
   |false=>simp
   |true=> simp only [↓reduceIte];refine (ng f _ _ (by rw [List.length_set];omega)).trans ?_;have RD:=List.set_set_perm (as:=xs.set pos new) (i:=pos) (j:=(pos-1)/2) (by rw [List.length_set];omega) (by rw [List.length_set];omega);rw [List.getElem_set_ne (by exact Vh h0),List.getElem_set_self,List.set_set] at RD;exact RD
theorem yg:Heap []:=by intro i _ h;simp at h
theorem By (x:Key) (h:Heap xs):Heap (tX aN xs x)∧(tX aN xs x).Perm (x::xs):=by
 unfold tX;constructor
 ·refine nc _ _ _ (Nat.le_refl _) (by simp) ?_ ?_ ?_
  ·intro i i0 il i1 i2;rw [List.length_append,List.length_singleton] at il;have e1:ky (xs++[x]) i=ky xs i:=by unfold ky;rw [List.getElem?_append_left (by exact Mr il i1)]
   have e2:ky (xs++[x]) ((i-1)/2)=ky xs ((i-1)/2):=by unfold ky;rw [List.getElem?_append_left (by exact Vi il i2)]
   rw [e1,e2];exact h i i0 (Mr il i1)
  ·intro c c0 cl ce;rw [List.length_append,List.length_singleton] at cl;exact (Mt c0 cl ce).elim
  ·intro _ c c0 cl ce;rw [List.length_append,List.length_singleton] at cl;exact (Mt c0 cl ce).elim
 ·refine (ng _ _ _ (by simp)).trans ?_;rw [List.set_append_right _ _ (Nat.le_refl _),Nat.sub_self,List.set_cons_zero];exact List.perm_append_comm
theorem BA (h:Heap xs):∀i,i<xs.length→ky xs 0≤ky xs i:=by
 intro i;induction i using Nat.strongRecOn with
 |_ i ih=>
  intro hi
  by_cases h0:i=0
  ·subst h0;exact Int.le_refl _
  ·have h1:=ih ((i-1)/2) (oq8 h0) (Uj hi);have h2:=h i (Vg h0) hi;exact Ms h1 h2
theorem Eh (h:Heap xs) (hne:xs≠[]):∃a rest,Eg aN xs=some (a,rest)∧Heap rest∧xs.Perm (a::rest)∧∀y∈xs,a.1≤y.1:=by
 have hl:=List.getLast?_eq_some_getLast hne;have hxs:=(List.dropLast_concat_getLast hne).symm;generalize xs.getLast hne=last at hl hxs;unfold Eg;rw [hl];simp only;cases hd:xs.dropLast with
 |nil=> rw [hd] at hxs;refine ⟨last,[],rfl,yg,by rw [hxs];exact .refl _,?_⟩;rw [hxs];intro y hy;simp only [List.nil_append,List.mem_singleton] at hy;rw [hy];exact Int.le_refl _
 |cons a r=>
  rw [hd] at hxs;have hlen:=congrArg List.length hxs;rw [List.length_append,List.length_cons,List.length_singleton] at hlen;have hk:∀i,0<i→i<(last::r).length→ky (last::r) i=ky xs i:=by intro i i0 il;rw [hxs];unfold ky;obtain ⟨j,rfl⟩:∃j,i=j+1:=⟨i-1,by exact D4 i0⟩;rw [List.length_cons] at il;rw [List.cons_append,List.getElem?_cons_succ,List.getElem?_cons_succ,List.getElem?_append_left (by exact zz il)]
  obtain ⟨ys,q,r1,r2,r3,r4,r5,r6⟩:=tY (r.length+1) (last::r) 0 (by simp) (by simp) (by
   intro i i0 il i1 i2;rw [hk i i0 il,hk _ (by exact Vj i2) (by exact Uj il)];rw [List.length_cons] at il
   exact h i i0 (Vl hlen il)) (by omega)
  rw [List.length_cons] at r1 r2 r3 r4 r5;simp only;refine ⟨a,_,rfl,?_,?_,?_⟩
  ·rw [r1];simp only;refine nc _ _ _ (Nat.le_refl _) (by rw [List.length_set,r2];exact r3) ?_ ?_ ?_
   ·intro i i0 il i1 i2;rw [List.length_set,r2] at il;rw [bC i1,bC i2];exact r5 i i0 il i1 i2
   ·intro c c0 cl ce;rw [List.length_set,r2] at cl;exact (Mx r4 c0 cl ce).elim
   ·intro _ c c0 cl ce;rw [List.length_set,r2] at cl;exact (Mx r4 c0 cl ce).elim
  ·rw [r1];simp only;have p1:=(ng (new:=last) q (ys.set q last) q (by rw [List.length_set,r2];exact r3));rw [List.set_set] at p1;have p2:=p1.trans (r6 last);rw [List.set_cons_zero] at p2;rw [hxs,List.cons_append];exact (List.Perm.cons a ((List.perm_append_comm).trans p2.symm))
  ·intro y hy;obtain ⟨i,hi,e⟩:=List.mem_iff_getElem.mp hy;have h1:=BA h i hi;rw [eX (List.getElem?_eq_getElem hi),e] at h1;have h2:ky xs 0=a.1:=by
    rw [hxs];rfl
   exact Vp h1 h2
section
noncomputable def nm (k:Nat):List Nat:=(List.range k).map (97+·)
noncomputable def IS (w:List Nat):Bool:=!w.isEmpty&&w !=[46]
noncomputable def cM {α:Type} [DecidableEq α]:List α→List α→List α
 |a::r,b::t=>if a=b then a::cM r t else []
 |_,_=>[]
theorem tZ [DecidableEq α] {a b:α} {r t:List α}:cM (a::r) (b::t)=if a=b then a::cM r t else []:=rfl
theorem RE {n:Nat}:(lv ai K (n+1)).f 4 [.str s] []=some (.str s):=by kernel_rfl
section
variable {C:Calls} {K:Nat}
theorem IT {w:List Nat} (Uy:ah m 31=some (.fz (.str [46]))) (IU:ah m 35=some (.fz (.str w))):
  Bp C m (some (.and (.var 35) (.cmp .ne (.var 35) (.var 31))))=some (IS w):=by
 have t1:tr C m (.var 35)=some (!w.isEmpty):=by rw [Zh,qU IU];rfl
 rw [IE,Wh,t1];cases w with
 |nil=>rfl
 |cons c w=> simp only [Option.bind_some,List.isEmpty_cons,Bool.not_false,↓reduceIte];exact aU (aa IU) (aa Uy) rfl
theorem BB {m:ao} (Uy:ah m 31=some (.fz (.str [46]))) (IU:∀ys,ah m 35≠some (.own ys)):∀ws:List (List Nat),
  bK (fun x=>(bQ m (.one 35) x).bind fun m'=>(Bp C m' (some (.and (.var 35) (.cmp .ne (.var 35) (.var 31))))).bind fun ok=>if ok then (ev C m' (.var 35)).map some else some none) (ws.map .str)=some ((ws.filter IS).map .str)
 |[]=>rfl
 |w::ws=>by
  rw [List.map_cons,bK,BB Uy IU ws];have e:bQ m (.one 35) (.str w)=some (ak m 35 (.fz (.str w))):=cy IU;rw [e];simp only [Option.bind_some];rw [IT (by rw [cE];exact Uy) (au ..)];cases hk:IS w with
  |true=> simp only [Option.bind_some,↓reduceIte];rw [aa (au ..),List.filter_cons_of_pos hk];rfl
  |false=> simp only [Option.bind_some,Bool.false_eq_true,↓reduceIte];rw [List.filter_cons_of_neg (by rw [hk];decide)];rfl
theorem cB:∀ws:List (List Nat),bJ (ws.map .str)=some ws
 |[]=>rfl
 |w::ws=>by rw [List.map_cons,bJ,cB ws];rfl
structure Zp (m:ao) (x y z:List (List Nat)):Prop where
 h36:ah m 36=some (.fz (.lst (x.map .str)))
 h37:ah m 37=some (.fz (.lst (y.map .str)))
 Zq:ah m 38=some (.fz (.lst (z.map .str)))
 IV:ah m 17=some (.fz (.str [47]))
 Zr:ah m 33=some (.fz (.bool true))
 h21:∀ys,ah m 21≠some (.own ys)
 IU:∀ys,ah m 35≠some (.own ys)
 Zs:∀ys,ah m 39≠some (.own ys)
noncomputable abbrev qY:List PS:=[.fH (.cmp .ne (.var 35) (.idx (.var 37) (.var 21))) [.asg 38 (.slc (.var 36) none (some (.var 21)) none),.brk] []]
theorem yh:∀(r s:List (List Nat)) (pre:List (List Nat)) (m:ao),(pre++r).length<1000→Zp m (pre++r) (pre++s) (pre++r)→jk s r=false→
  ∃m',forL (fK C K (.many [21,35]) qY) (((r.map V.str).zipIdx pre.length).map fun p=>.tup [.int p.2,p.1]) m=some (.next,m')∧Zp m' (pre++r) (pre++s) (pre++cM r s)
 |[],s,pre,m,hl,H,hs=>⟨m,rfl,by cases s <;>exact H⟩
 |a::r,[],pre,m,hl,H,hs=>by simp [jk] at hs
 |a::r,b::s,pre,m,hl,H,hs=>by
  rw [List.map_cons,List.zipIdx_cons,List.map_cons];simp only;obtain ⟨i,hi⟩:∃i:Int,i=(pre.length:Int):=⟨_,rfl⟩;rw [←hi];rw [List.length_append,List.length_cons] at hl;have hin:i.toNat=pre.length:=o4 hi;have tK:bQ m (.many [21,35]) (.tup [.int i,.str a])=some (ak (ak m 21 (.fz (.int i))) 35 (.fz (.str a))):=by show (jN m 21 _).bind _=_;rw [cy H.h21];show (jN _ 35 _).bind _=_;rw [cy (by rw [cE];exact H.IU)];rfl
  generalize hm2:ak (ak m 21 (.fz (.int i))) 35 (.fz (.str a))=m2 at tK;have L0:ah m2 21=some (.fz (.int i)):=Uq hm2;have Wx:ah m2 35=some (.fz (.str a)):=DX hm2;have Wy:ah m2 36=some (.fz (.lst ((pre++a::r).map .str))):=AS hm2 H.h36;have Wz:ah m2 37=some (.fz (.lst ((pre++b::s).map .str))):=AS hm2 H.h37;have Zt:ah m2 38=some (.fz (.lst ((pre++a::r).map .str))):=AS hm2 H.Zq;have Zu:ah m2 17=some (.fz (.str [47])):=AS hm2 H.IV;have Zv:ah m2 33=some (.fz (.bool true)):=AS hm2 H.Zr;have Zw:∀ys,ah m2 39≠some (.own ys):=gn2 hm2 H.Zs;have hix:bT i:=⟨by exact lD hi,by exact M1 hl hin⟩;have eb:ev C m2 (.idx (.var 37) (.var 21))=some (.str b):=by rw [Rt,aa Wz,aa L0];refine m8 hix ?_;rw [hin,List.map_append,List.map_cons,List.getElem?_append_right (by rw [List.length_map];exact xV),List.length_map,Nat.sub_self];rfl
  have ht:tr C m2 (.cmp .ne (.var 35) (.idx (.var 37) (.var 21)))=some (a !=b):=aU (aa Wx) eb rfl
  by_cases hab:a=b
  ·have ht':tr C m2 (.cmp .ne (.var 35) (.idx (.var 37) (.var 21)))=some false:=by rw [ht,hab];simp
   have hg:fK C K (.many [21,35]) qY m (.tup [.int i,.str a])=some (.next,m2):=by unfold fK;rw [tK,Option.bind_some,af (m':=m2) ((bB ht').trans aK),aK]
   rw [aL hg];have hs':jk s r=false:=by rw [jk,if_pos hab.symm] at hs;exact hs
   have e1:pre++a::r=(pre++[a])++r:=by rw [List.append_assoc];rfl
   have e2:pre++b::s=(pre++[a])++s:=by rw [List.append_assoc,hab];rfl
   obtain ⟨m',r1,r2⟩:=yh r s (pre++[a]) m2 (by rw [List.length_append,List.length_append,List.length_singleton];exact M3 hl) (by
    rw [←e1,←e2]
    exact ⟨Wy,Wz,Zt,Zu,Zv,kI L0,kI Wx,Zw⟩) hs'
   rw [List.length_append,List.length_singleton] at r1;refine ⟨m',r1,?_⟩;rw [←e1,←e2] at r2;rw [tZ,if_pos hab];rw [List.append_assoc] at r2;exact r2
  ·have ht':tr C m2 (.cmp .ne (.var 35) (.idx (.var 37) (.var 21)))=some true:=by rw [ht];simp [hab]
   have esl:ev C m2 (.slc (.var 36) none (some (.var 21)) none)=some (.lst (pre.map .str)):=by refine tV (aa Wy) rfl (iy (aa L0)) rfl ((Bw rfl (cA hix)).trans ?_);show some (V.lst (List.take _ _))=_;rw [hin];rw [List.map_append,List.take_append_of_le_length (by rw [List.length_map];exact xV),List.take_of_length_le (by rw [List.length_map];exact xV)]
   have e38:ex C K (.asg 38 (.slc (.var 36) none (some (.var 21)) none)) m2=some (.next,ak m2 38 (.fz (.lst (pre.map .str)))):=aD esl (kI Zt);have hg:fK C K (.many [21,35]) qY m (.tup [.int i,.str a])=some (.brk,ak m2 38 (.fz (.lst (pre.map .str)))):=by unfold fK;rw [tK,Option.bind_some,qS ((dX ht').trans (by exact (af e38).trans (qS (m':=ak m2 38 (.fz (.lst (pre.map .str)))) (by rw [Wq]))))]
   refine ⟨_,by rw [forL,hg];rfl,?_⟩;rw [tZ,if_neg hab,List.append_nil];refine ⟨?_,?_,au ..,?_,?_,?_,?_,?_⟩
   ·rw [cE];exact Wy
   ·rw [cE];exact Wz
   ·rw [cE];exact Zu
   ·rw [cE];exact Zv
   ·rw [cE,L0];simp
   ·rw [cE,Wx];simp
   ·rw [cE];exact Zw
end
end
section
theorem yi:∀a b:List Nat,(ltN a b=true∧ltN b a=false)∨(ltN a b=false∧ltN b a=true)∨(a=b∧ltN a b=false)
 |[],[]=>.inr (.inr ⟨rfl,rfl⟩)
 |[],_::_=>.inl ⟨rfl,rfl⟩
 |_::_,[]=>.inr (.inl ⟨rfl,rfl⟩)
 |a::r,b::t=>by
  simp only [ltN]
  by_cases h1:a<b
  ·left;simp [h1,show ¬b<a by exact Hw h1,show b≠a by exact Hx h1]
  ·by_cases h2:b<a
   ·right;left;simp [h1,h2,show a≠b by exact Hx h2]
   ·obtain rfl:a=b:=Pk h1 h2;simp only [h1,↓reduceIte];rcases yi r t with q|q|q
    ·exact .inl q
    ·exact .inr (.inl q)
    ·exact .inr (.inr ⟨by rw [q.1],q.2⟩)
theorem yj:∀a b:List (List Nat),(jk a b=true∧jk b a=false)∨(jk a b=false∧jk b a=true)∨(a=b∧jk a b=false)
 |[],[]=>.inr (.inr ⟨rfl,rfl⟩)
 |[],_::_=>.inl ⟨rfl,rfl⟩
 |_::_,[]=>.inr (.inl ⟨rfl,rfl⟩)
 |a::r,b::t=>by
  simp only [jk]
  by_cases h1:a=b
  ·subst h1;simp only [↓reduceIte];rcases yj r t with q|q|q
   ·exact .inl q
   ·exact .inr (.inl q)
   ·exact .inr (.inr ⟨by rw [q.1],q.2⟩)
  ·simp only [h1,Ne.symm h1,↓reduceIte];rcases yi a b with q|q|q
   ·exact .inl q
   ·exact .inr (.inl q)
   ·exact absurd q.1 h1
theorem nh {α:Type} [DecidableEq α]:∀a b:List α,cM a b=cM b a
 |[],[]=>rfl
 |[],_::_=>rfl
 |_::_,[]=>rfl
 |a::r,b::t=>by
  simp only [cM]
  by_cases h1:a=b
  ·subst h1;rw [nh r t]
  ·simp [h1,Ne.symm h1]
theorem t8 {α:Type} [DecidableEq α]:∀a:List α,cM a a=a
 |[]=>rfl
 |a::r=>by simp [tZ,t8 r]
theorem mnx (x y:List (List Nat)):∃p q,v7 .min [.lst [.lst (x.map .str),.lst (y.map .str)]]=some (.lst (p.map .str))∧v7 .max [.lst [.lst (x.map .str),.lst (y.map .str)]]=some (.lst (q.map .str))∧jk q p=false∧cM p q=cM x y∧(p=x∨p=y):=by
 have e1:v7 .min [.lst [.lst (x.map .str),.lst (y.map .str)]]=some (if jk y x then .lst (y.map .str) else .lst (x.map .str)):=by show (bJ (x.map V.str)).bind (fun p=>(bJ (y.map V.str)).bind fun q=>some (if jk q p then V.lst (y.map .str) else .lst (x.map .str)))=_;exact bb (cB x) (bb (cB y) rfl)
 have e2:v7 .max [.lst [.lst (x.map .str),.lst (y.map .str)]]=some (if jk x y then .lst (y.map .str) else .lst (x.map .str)):=by show (bJ (x.map V.str)).bind (fun p=>(bJ (y.map V.str)).bind fun q=>some (if jk p q then V.lst (y.map .str) else .lst (x.map .str)))=_;exact bb (cB x) (bb (cB y) rfl)
 rw [e1,e2];rcases yj x y with q|q|q
 ·exact ⟨x,y,by rw [q.2];rfl,by rw [q.1];rfl,q.2,rfl,.inl rfl⟩
 ·exact ⟨y,x,by rw [q.2];rfl,by rw [q.1];rfl,q.1,nh ..,.inr rfl⟩
 ·obtain ⟨rfl,q⟩:=q;exact ⟨x,x,by rw [q];rfl,by rw [q];rfl,q,rfl,.inl rfl⟩
theorem qZ {g:α→Option β} {x:α} {r:List α} {y:β} {ys:List β} (h:g x=some y) (k:o7 g r=some ys):o7 g (x::r)=some (y::ys):=bb h (by rw [k];rfl)
theorem yk {g:V→Option (Option V)} {x:V} {r:List V} {y:Option V} {ys:List V} (h:g x=some y) (k:bK g r=some ys):bK g (x::r)=some (y.toList++ys):=bb h (by rw [k];rfl)
theorem IW {C:Calls} (h:ev C m e=some v):((Bp C m none).bind fun ok=>if ok=true then (ev C m e).map some else some none)=some (some v):=by show (ev C m e).map some=_;rw [h];rfl
noncomputable def RG (C:Calls) (m:ao) (x:V):Option (Option V):=(bQ m (.one 13) x).bind fun m'=>(Bp C m' none).bind fun ok=>if ok=true then (ev C m' (.bZ .split (.var 13) [(.var 17)])).map some else some none
noncomputable def IX (C:Calls) (m:ao) (x:V):Option V:=(jN m 19 x).bind fun m'=>ev C m' (.bZ .startswith (.var 19) [(.var 17)])
section
variable {C:Calls} {m:ao} {w:List Nat}
theorem yl (IV:ah m 17=some (.fz (.str [47]))) (h:∀ys,ah m 13≠some (.own ys)) (hw:ck (w.length+1)=true):RG C m (.str w)=some (some (.lst ((aI 47 w).map .str))):= bb (x:=jN m 13 (.str w)) (cy h) (IW (jV (vs:=[.str [47]]) (aa (au ..)) (v8 (aa (mC IV))) (if_pos hw)))
theorem ym (IV:ah m 17=some (.fz (.str [47]))) (h:∀ys,ah m 19≠some (.own ys)) (hw:w.head?=some 47):IX C m (.str w)=some (.bool true):= bb (cy h) (jV (a:=.str w) (vs:=[.str [47]]) (aa (au ..)) (v8 (aa (mC IV))) (by show some (V.bool (w.head?==some 47))=_;rw [hw];rfl))
end
theorem Ei {C:Calls} {xs ys:List V} {b:Bool} (h:ev C m it=some v) (hx:cO v=some xs) (hm:o7 (fun z=>(jN m y z).bind fun m'=>ev C m' elt) xs=some (.bool b::ys)) (ha:ys.all (Bk b)=true) (hs:∀ys,ah m x≠some (.own ys)):
  ex C K (.qP x elt y it) m=some (.next,ak m x (.fz (.bool b))):=bb h (bb hx (bb hm (by
 show (if ys.all (Bk b)=true then (jN m x (.bool b)).map _ else none)=_
 rw [if_pos ha,cy hs];rfl)))
theorem IY {n:Nat} {a b:List Nat} {x y:List (List Nat)} (hA:(aI 47 a).filter IS=x) (hB:(aI 47 b).filter IS=y) (ha0:a.head?=some 47) (hb0:b.head?=some 47) (hla:ck (a.length+1)=true) (hlb:ck (b.length+1)=true)
  (hx:x.length<1000) (hy:y.length<1000) (hj:ck (((cM x y).map List.length).sum+(cM x y).length*1)=true) (hj2:ck (1+(cu [47] (cM x y)).length)=true):
  (lv ai K (n+2)).f 10 [.lst [.str a,.str b]] []=some (.str ([47]++cu [47] (cM x y))):=by
 rw [gS];show outF (exs (lv ai K (n+1)) K V3 [(30,.fz (.lst [.str a,.str b]))])=_;generalize hC:lv ai K (n+1)=C;have Zx:∀s,C.f 4 [.str s] []=some (.str s):=fun s=>by rw [←hC];exact RE
 unfold V3;have e1:ex C K (.asg 30 (.gk 4 (.var 30))) [(30,.fz (.lst [.str a,.str b]))]=some (.next,[(30,.fz (.tup [.str a,.str b]))]):=
  aD (v:=.tup [.str a,.str b]) (bb (aa rfl) (by
   show ((o7 (fun x=>C.f 4 [x] []) [.str a,.str b]).bind fun ys=>(bJ ys).map fun _=>V.tup ys)=_;rw [qZ (g:=fun x=>C.f 4 [x] []) (Zx a) (qZ (g:=fun x=>C.f 4 [x] []) (Zx b) rfl)]
   rfl)) (kI rfl)
 have e2:ex C K (.fH (.not (.var 30)) [.bad] []) [(30,.fz (.tup [.str a,.str b]))]=some (.next,[(30,.fz (.tup [.str a,.str b]))]):= (bB rfl).trans aK;have e3:ex C K (.fH (.bi .gj [(.idx (.var 30) (.cn (.int 0))),(.gl 3)]) [.asg 17 .bad,.asg 31 .bad] [.asg 17 (.cn (.str [47])),.asg 31 (.cn (.str [46]))]) [(30,.fz (.tup [.str a,.str b]))]=some (.next,[(30,.fz (.tup [.str a,.str b])),(17,.fz (.str [47])),(31,.fz (.str [46]))]):= (bB (by kernel_rfl)).trans (by rw [af (aD ay (bh rfl)),af (aD ay (bh rfl)),aK];rfl);have e4:ex C K (.asg 32 (.comp (.bZ .split (.var 13) [(.var 17)]) (.one 13) (.var 30) none)) [(30,.fz (.tup [.str a,.str b])),(17,.fz (.str [47])),(31,.fz (.str [46]))]=some (.next,[(30,.fz (.tup [.str a,.str b])),(17,.fz (.str [47])),(31,.fz (.str [46])),(32,.fz (.lst [.lst ((aI 47 a).map .str),.lst ((aI 47 b).map .str)]))]):=
  aD (v:=.lst [.lst ((aI 47 a).map .str),.lst ((aI 47 b).map .str)]) (by
   show (bK (RG C _) [.str a,.str b]).map V.lst=_;rw [yk (yl rfl (bh rfl) hla) (yk (yl rfl (bh rfl) hlb) rfl)]
   rfl) (bh rfl)
 have e5:ex C K (.ig [.qP 33 (.bZ .startswith (.var 19) [(.var 17)]) 19 (.var 30)]) [(30,.fz (.tup [.str a,.str b])),(17,.fz (.str [47])),(31,.fz (.str [46])),(32,.fz (.lst [.lst ((aI 47 a).map .str),.lst ((aI 47 b).map .str)]))]=some (.next,[(30,.fz (.tup [.str a,.str b])),(17,.fz (.str [47])),(31,.fz (.str [46])),(32,.fz (.lst [.lst ((aI 47 a).map .str),.lst ((aI 47 b).map .str)])),(33,.fz (.bool true))]):=by exact seq1 (Ei (ys:=[.bool true]) (aa rfl) (by rfl) (qZ (g:=IX C _) (ym rfl (bh rfl) ha0) (qZ (g:=IX C _) (ym rfl (bh rfl) hb0) rfl)) (by rfl) (bh rfl))
 have e6:ex C K (.asg 32 (.comp (.comp (.var 35) (.one 35) (.var 34) (some (.and (.var 35) (.cmp .ne (.var 35) (.var 31))))) (.one 34) (.var 32) none)) [(30,.fz (.tup [.str a,.str b])),(17,.fz (.str [47])),(31,.fz (.str [46])),(32,.fz (.lst [.lst ((aI 47 a).map .str),.lst ((aI 47 b).map .str)])),(33,.fz (.bool true))]=some (.next,[(30,.fz (.tup [.str a,.str b])),(17,.fz (.str [47])),(31,.fz (.str [46])),(32,.fz (.lst [.lst (x.map .str),.lst (y.map .str)])),(33,.fz (.bool true))]):=by
  refine aD (v:=.lst [.lst (x.map .str),.lst (y.map .str)]) ?_ (kI rfl);have inner:∀(w:List Nat) (m:ao),m=[(30,.fz (.tup [.str a,.str b])),(17,.fz (.str [47])),(31,.fz (.str [46])),(32,.fz (.lst [.lst ((aI 47 a).map .str),.lst ((aI 47 b).map .str)])),(33,.fz (.bool true))]→ev C (ak m 34 (.fz (.lst ((aI 47 w).map .str)))) (.comp (.var 35) (.one 35) (.var 34) (some (.and (.var 35) (.cmp .ne (.var 35) (.var 31)))))=some (.lst (((aI 47 w).filter IS).map .str)):=by intro w m hm;rw [zE,aa (au ..)];simp only [Option.bind_some,cO];rw [BB (by rw [cE,hm];rfl) (by rw [cE,hm];simp [ah])];rfl
  rw [zE,aa rfl];simp only [Option.bind_some,cO,bK];have s1:∀w:List Nat,bQ [(30,.fz (.tup [.str a,.str b])),(17,.fz (.str [47])),(31,.fz (.str [46])),(32,.fz (.lst [.lst ((aI 47 a).map .str),.lst ((aI 47 b).map .str)])),(33,.fz (.bool true))] (.one 34) (.lst ((aI 47 w).map .str))=some (ak [(30,.fz (.tup [.str a,.str b])),(17,.fz (.str [47])),(31,.fz (.str [46])),(32,.fz (.lst [.lst ((aI 47 a).map .str),.lst ((aI 47 b).map .str)])),(33,.fz (.bool true))] 34 (.fz (.lst ((aI 47 w).map .str)))):=fun w=>by simp only [bQ];exact cy (bh rfl)
  rw [s1 a,s1 b];simp only [Option.bind_some,LW,IE,↓reduceIte];rw [inner a _ rfl,inner b _ rfl,hA,hB];rfl
 obtain ⟨p,q,m1,m2,m3,m4,m5⟩:=mnx x y;have e7:ex C K (.asg 36 (.bi .min [(.var 32)])) [(30,.fz (.tup [.str a,.str b])),(17,.fz (.str [47])),(31,.fz (.str [46])),(32,.fz (.lst [.lst (x.map .str),.lst (y.map .str)])),(33,.fz (.bool true))]=some (.next,[(30,.fz (.tup [.str a,.str b])),(17,.fz (.str [47])),(31,.fz (.str [46])),(32,.fz (.lst [.lst (x.map .str),.lst (y.map .str)])),(33,.fz (.bool true)),(36,.fz (.lst (p.map .str)))]):= aD (v:=.lst (p.map .str)) (by rw [Eb,jR,aa rfl,jO];exact m1) (bh rfl);have e8:ex C K (.asg 37 (.bi .max [(.var 32)])) [(30,.fz (.tup [.str a,.str b])),(17,.fz (.str [47])),(31,.fz (.str [46])),(32,.fz (.lst [.lst (x.map .str),.lst (y.map .str)])),(33,.fz (.bool true)),(36,.fz (.lst (p.map .str)))]=some (.next,[(30,.fz (.tup [.str a,.str b])),(17,.fz (.str [47])),(31,.fz (.str [46])),(32,.fz (.lst [.lst (x.map .str),.lst (y.map .str)])),(33,.fz (.bool true)),(36,.fz (.lst (p.map .str))),(37,.fz (.lst (q.map .str)))]):= aD (v:=.lst (q.map .str)) (by rw [Eb,jR,aa rfl,jO];exact m2) (bh rfl)
 have e9:ex C K (.asg 38 (.var 36)) [(30,.fz (.tup [.str a,.str b])),(17,.fz (.str [47])),(31,.fz (.str [46])),(32,.fz (.lst [.lst (x.map .str),.lst (y.map .str)])),(33,.fz (.bool true)),(36,.fz (.lst (p.map .str))),(37,.fz (.lst (q.map .str)))]=some (.next,[(30,.fz (.tup [.str a,.str b])),(17,.fz (.str [47])),(31,.fz (.str [46])),(32,.fz (.lst [.lst (x.map .str),.lst (y.map .str)])),(33,.fz (.bool true)),(36,.fz (.lst (p.map .str))),(37,.fz (.lst (q.map .str))),(38,.fz (.lst (p.map .str)))]):= aD (aa rfl) (bh rfl);obtain ⟨m',l1,l2⟩:=yh (C:=C) (K:=K) p q [] [(30,.fz (.tup [.str a,.str b])),(17,.fz (.str [47])),(31,.fz (.str [46])),(32,.fz (.lst [.lst (x.map .str),.lst (y.map .str)])),(33,.fz (.bool true)),(36,.fz (.lst (p.map .str))),(37,.fz (.lst (q.map .str))),(38,.fz (.lst (p.map .str)))]
  (by rw [List.nil_append];rcases m5 with q|q <;>rw [q] <;>assumption) ⟨rfl,rfl,rfl,rfl,rfl,by simp [ah],by simp [ah],by simp [ah]⟩ m3
 simp only [List.nil_append] at l2;rw [m4] at l2;have LZ:ex C K (.eU 21 35 (.var 36) qY) [(30,.fz (.tup [.str a,.str b])),(17,.fz (.str [47])),(31,.fz (.str [46])),(32,.fz (.lst [.lst (x.map .str),.lst (y.map .str)])),(33,.fz (.bool true)),(36,.fz (.lst (p.map .str))),(37,.fz (.lst (q.map .str))),(38,.fz (.lst (p.map .str)))]=some (.next,m'):=by rw [Wn,aa rfl];exact l1
 have LY:∃HP,exs C K [.asg 39 (.ite (.var 33) (.var 17) (.slc (.var 17) none (some (.cn (.int 0))) none)),.ret (.bin .add (.var 39) (.bZ .join (.var 17) [(.var 38)]))] m'=some (.ret (.str ([47]++cu [47] (cM x y))),HP):=by
  ·have e:ex C K (.asg 39 (.ite (.var 33) (.var 17) (.slc (.var 17) none (some (.cn (.int 0))) none))) m'=some (.next,ak m' 39 (.fz (.str [47]))):=
    aD (by
     rw [Wm,Zh,qU l2.Zr];simp only [Option.bind_some,Wt,↓reduceIte]
     exact aa l2.IV) l2.Zs
   have ej:ev C (ak m' 39 (.fz (.str [47]))) (.bZ .join (.var 17) [(.var 38)])=some (.str (cu [47] (cM x y))):=by rw [Ru,aa (v:=.str [47]) (by rw [cE];exact l2.IV),jR,aa (v:=.lst ((cM x y).map .str)) (by rw [cE];exact l2.Zq),jO];show (bJ _).bind _=_;rw [cB];simp only [Option.bind_some,List.length_singleton];rw [if_pos hj]
   have eb:ev C (ak m' 39 (.fz (.str [47]))) (.bin .add (.var 39) (.bZ .join (.var 17) [(.var 38)]))=some (.str ([47]++cu [47] (cM x y))):= aF (aa (au ..)) ej (by exact if_pos hj2);exact ⟨_,by rw [af e,aY (v:=.str ([47]++cu [47] (cM x y))) (m':=ak m' 39 (.fz (.str [47]))) (by rw [Br,lG,eb];rfl)]⟩
 obtain ⟨HP,LY⟩:=LY;rw [af e1,af e2,af e3,aY (v:=.str ([47]++cu [47] (cM x y))) (m':=HP)]
 ·rfl
 ·rw [Wo,af e4,af e5,af e6,af e7,af e8,af e9,af LZ];exact LY
end
noncomputable def we:Nat→List Nat
 |0=>[47]
 |1=>[]
 |2=>[47,46,47]
 |3=>[47,122,47,46,46,47]
 |4=>[47,47,47]
 |_=>[46,46,47]
theorem WA:∀u,u<6→∀m,m<64→qW (((lv ai 100 3).f 6 [.str [47],.str (we u++(bf m).tail)] []).bind fun v=>(lv ai 100 3).f 9 [v] []) (bf m)=true:=by decide+kernel
theorem kL:∀m,m<64→(aI 47 (bf m)).filter IS=(aW m).map nm∧(bf m).head?=some 47∧[47]++cu [47] ((aW m).map nm)=bf m∧ck ((bf m).length+1)=true∧(aW m).length<7∧ck ((((aW m).map nm).map List.length).sum+((aW m).map nm).length*1)=true∧ck (1+(cu [47] ((aW m).map nm)).length)=true:=by decide+kernel
theorem q8 {a b:Nat} (h:nm a=nm b):a=b:=by have:=congrArg List.length h;simpa [nm] using this
theorem yo {α β:Type} [DecidableEq α] [DecidableEq β] {f:α→β} (hf:∀a b,f a=f b→a=b):∀x y:List α,cM (x.map f) (y.map f)=(cM x y).map f
 |[],[]=>rfl
 |[],_::_=>rfl
 |_::_,[]=>rfl
 |a::r,b::t=>by
  simp only [List.map_cons,cM]
  by_cases h:a=b
  ·subst h;simp [yo hf r t]
  ·rw [if_neg h,if_neg fun e=>h (hf _ _ e)];rfl
noncomputable abbrev Cons (a b:Nat):Prop:=cM (aW a) (aW b)=aW (a &&& b)
noncomputable def dst (a b:Nat):Int:=(pc a:Int)+(pc b:Int)-2*(pc (a &&& b):Int)
theorem Ej {n a b:Nat} (ha:a<64) (hb:b<64) (h:Cons a b):(lv ai 100 (n+2)).f 10 [.lst [.str (bf a),.str (bf b)]] []=some (.str (bf (a &&& b))):=by
 obtain ⟨a1,a2,a3,a4,a5,a6,a7⟩:=kL a ha;obtain ⟨b1,b2,b3,b4,b5,b6,b7⟩:=kL b hb;obtain ⟨c1,c2,c3,c4,c5,c6,c7⟩:=kL (a &&& b) (Nat.lt_of_le_of_lt Nat.and_le_left ha);have e:cM ((aW a).map nm) ((aW b).map nm)=(aW (a &&& b)).map nm:=by rw [yo fun _ _=>q8,h]
 rw [IY (x:=(aW a).map nm) (y:=(aW b).map nm) a1 b1 a2 b2 a4 b4 (by rw [List.length_map];exact A5 a5) (by rw [List.length_map];exact A5 b5) (by rw [e];exact c6) (by rw [e];exact c7),e,c3]
theorem RH {m:Nat} (h:m<64):pc m<7:=(kL m h).2.2.2.2.1
theorem IZ {a b:Nat} (ha:a<64) (hb:b<64) (h:Cons a b):(lv ai 100 4).f 22 [.str (bf a),.str (bf b)] []=some (.int (dst a b)):=by
 have hc:a &&& b<64:=Nat.lt_of_le_of_lt Nat.and_le_left ha;have k1:=iS (IK a ha);have k2:=iS (IK b hb);have k3:=iS (IK (a &&& b) hc);have k4:=Ej (n:=1) ha hb h;have hl:=RH hc;unfold dst;rw [gS];show outF (exs (lv ai 100 3) 100 Wa [(64,.fz (.str (bf a))),(65,.fz (.str (bf b)))])=_;generalize (pc a:Int)=p at k1;generalize (pc b:Int)=q at k2;obtain ⟨r,hr⟩:∃r:Int,r=(pc (a &&& b):Int):=⟨_,rfl⟩;rw [←hr] at k3⊢;generalize bf a=A at *;generalize bf b=B at *;generalize bf (a &&& b)=D at *;generalize hC:lv ai 100 3=C at *;have k4':C.f 10 [.lst [.str A,.str B]] []=some (.str D):=k4;unfold Wa;have va:ev C [(64,.fz (.str A)),(65,.fz (.str B))] (.var 64)=some (.str A):=aa rfl;have vb:ev C [(64,.fz (.str A)),(65,.fz (.str B))] (.var 65)=some (.str B):=aa rfl;have c1:ev C [(64,.fz (.str A)),(65,.fz (.str B))] (.call 20 [(.var 64)])=some (.int p):=by rw [Ea,jR,va,jO];exact k1
 have c2:ev C [(64,.fz (.str A)),(65,.fz (.str B))] (.call 20 [(.var 65)])=some (.int q):=by rw [Ea,jR,vb,jO];exact k2
 have c3:ev C [(64,.fz (.str A)),(65,.fz (.str B))] (.call 10 [(.lst [(.var 64),(.var 65)])])=some (.str D):=by
  have cl:ev C [(64,.fz (.str A)),(65,.fz (.str B))] (.lst [(.var 64),(.var 65)])=some (.lst [.str A,.str B]):=by rw [qR,jR,va,jR,vb,jO];rfl
  rw [Ea,jR,cl,jO];exact k4'
 have c4:ev C [(64,.fz (.str A)),(65,.fz (.str B))] (.call 20 [(.call 10 [(.lst [(.var 64),(.var 65)])])])=some (.int r):=by rw [Ea,jR,c3,jO];exact k3
 have hm:jx .mul (.int 2) (.int r)=some (.int (2*r)):=by refine if_pos ?_;simp only [small,Bool.and_eq_true,decide_eq_true_eq];constructor <;>omega
 have e:ev C [(64,.fz (.str A)),(65,.fz (.str B))] (.bin .sub (.bin .add (.call 20 [(.var 64)]) (.call 20 [(.var 65)])) (.bin .mul (.cn (.int 2)) (.call 20 [(.call 10 [(.lst [(.var 64),(.var 65)])])])))=some (.int (p+q-2*r)):= aF (aF c1 c2 rfl) (aF ay c4 hm) rfl;rw [aY (v:=.int (p+q-2*r)) (m':=[(64,.fz (.str A)),(65,.fz (.str B))]) (by rw [Br,lG,e];rfl)];rfl
section
structure Row where
 w:List Nat
 u:Nat
 bw:List Nat
 cm:Option (List Nat)
 m:Nat
 dead:Bool
noncomputable def Row.q (r:Row):List Nat:=we r.u++(bf r.m).tail
noncomputable def Row.tl (r:Row):List Nat:=r.bw++(match r.cm with|none=>[]|some c=>35::c)
noncomputable def Row.core (r:Row):List Nat:=39::(r.q++39::r.tl)
noncomputable def Row.text (r:Row):List Nat:=r.w++(if r.dead then 35::(r.core++[10]) else r.core++[10])
structure gK (r:Row):Prop where
 w1:∀x∈r.w,aQ 0 x=true
 w2:r.w.length<3
 u6:r.u<6
 Ek:r.m<64
 q1:39∉r.q
 q2:∀x∈r.q,aQ 1 x=false
 b1:∀x∈r.bw,aQ 0 x=true
 b2:r.bw.length<3
 c1:∀c,r.cm=some c→10∉c∧∀x∈c,aQ 1 x=false
 k1:10∉r.core
 k2:∀x∈r.core,aQ 1 x=false
noncomputable def aB (rs:List Row):List Nat:=rs.flatMap Row.text
noncomputable def eK:Int→List Row→List V
 |_,[]=>[]
 |i,r::rs=>(if r.dead then [] else [.tup [.int (i+(r.w.length:Int)),.int (r.w.length:Int),.str (bf r.m)]])++eK (i+(r.text.length:Int)) rs
section
variable {C:Calls} {K:Nat} {m:ao}
theorem cS:∀{m:ao} {x:Nat} {xs:List V},ah m x=some (.own xs)→ah (cL m) x=some (.fz (.lst xs))
 |[],x,xs,h=>by cases h
 |(y,s)::r,x,xs,h=>by
  unfold ah at h
  by_cases hb:Nat.beq y x
  ·rw [if_pos hb] at h;simp only [Option.some.injEq] at h;subst h;simp [cL,ah,hb]
  ·rw [if_neg hb] at h;have:=cS h;simp only [cL,List.map_cons,ah,hb] at this⊢;exact this
theorem q9 {xs:List V} (h:ah m x=some (.own xs)):ex C K (.ret (.var x)) m=some (.ret (.lst xs),cL m):=by
 have e:ev C m (.var x)=none:=by show jQ m x=none;unfold jQ;rw [h]
 show (lG C m (.var x)).map _=_;unfold lG;rw [e];show ((ev C (cL m) (.var x)).map _).map _=_;rw [aa (cS h)];rfl
end
theorem dr {a b:List Nat} (h0:0≤i) (h:s.drop i.toNat=a++c::b) (hl:s.length<900000):bT (i+(a.length:Int))∧s.drop (i+(a.length:Int)).toNat=c::b:=by have hlen:=congrArg List.length h;simp only [List.length_drop,List.length_append,List.length_cons] at hlen;refine ⟨⟨by exact Ba h0,by exact Hi hl hlen⟩,?_⟩;have e1:(i+(a.length:Int)).toNat=i.toNat+a.length:=Bc h0;rw [e1,←List.drop_drop,h,List.drop_left]
theorem HQ {b:List Nat} {n:Nat} (h:s.drop n=c::b):s[n]?=some c:=by have:=congrArg (·[0]?) h;simpa using this
theorem El {v:List Nat} {r:Row} (ok:gK r) (h0:0≤i) (h:s.drop i.toNat=r.tl++10::v) (hl:s.length<900000):
  ∃j:Int,(lv ai 100 3).f 11 [.str s,.int i,.fW 0] []=some (.int j)∧(lv ai 100 3).f 13 [.str s,.int j] []=some (.int (i+(r.tl.length:Int))):=by
 unfold Row.tl at h⊢;have hb2:=ok.b2;cases hc:r.cm with
 |none=> rw [hc] at h;simp only [List.append_nil] at h⊢;obtain ⟨i1,i2⟩:=dr h0 h hl;have hlen:=congrArg List.length h;simp only [List.length_drop,List.length_append,List.length_cons] at hlen;refine ⟨_,Ur (n:=2) (c:=10) hl ⟨h0,Ug i1.2⟩ h ok.b1 (by decide) (xZ hb2),?_⟩;exact Bx (n:=2) i1 (HQ i2) (by decide)
 |some c=> rw [hc] at h;simp only [List.append_assoc,List.cons_append] at h;obtain ⟨i1,i2⟩:=dr h0 h hl;have hlen:=congrArg List.length h;simp only [List.length_drop,List.length_append,List.length_cons] at hlen;refine ⟨_,Ur (n:=2) (c:=35) hl ⟨h0,Ug i1.2⟩ h ok.b1 (by decide) (xZ hb2),?_⟩;rw [yc (n:=1) i1 i2 (ok.c1 c hc).1 hl (ok.c1 c hc).2];simp only [List.length_append,List.length_cons];congr 2;exact QO
structure L6 (m:ao) (s:List Nat) (i:Int) (acc:List V):Prop where
 WB:ah m 57=some (.own acc)
 L8:ah m 58=some (.fz (.int i))
 oY:ah m 59=some (.fz (.str s))
 Uz:∀ys,ah m 60≠some (.own ys)
 h61:∀ys,ah m 61≠some (.own ys)
 Zy:∀ys,ah m 13≠some (.own ys)
noncomputable abbrev rf:List PS:=[.asg 60 (.call 11 [(.var 59),(.var 58),(.gl 0)]),.asg 61 (.call 13 [(.var 59),(.var 60)]),.fH (.cmp .eq (.var 61) (.var 60)) [.l6 [61,13] (.call 14 [(.var 59),(.var 60)]),.app 57 (.tup [(.var 60),(.bin .sub (.var 60) (.var 58)),(.call 9 [(.call 6 [(.cn (.str [47])),(.var 13)])])]),.asg 61 (.call 13 [(.var 59),(.call 11 [(.var 59),(.var 61),(.gl 0)])])] [],.asg 58 (.bin .add (.var 61) (.cn (.int 1)))]
section
variable {K:Nat} {s v:List Nat} {r:Row} {i j p l:Int} {m:ao} {acc:List V} (H:L6 m s i acc)
noncomputable def D1 (p j:Int):List (Nat×Sl):=[(58,.fz (.int (j+1))),(61,.fz (.int j)),(60,.fz (.int p))]
noncomputable def A3 (q:List Nat) (p j:Int):List (Nat×Sl):=[(13,.fz (.str q)),(61,.fz (.int j)),(61,.fz (.int p)),(60,.fz (.int p))]
noncomputable def A4 (r:Row) (acc:List V) (p j:Int):List (Nat×Sl):=(57,.own (acc++[.tup [.int p,.int (r.w.length:Int),.str (bf r.m)]]))::A3 r.q p j
noncomputable def A6 (r:Row) (acc:List V) (p j l:Int):List (Nat×Sl):=(58,.fz (.int (l+1)))::(61,.fz (.int l))::A4 r acc p j
include H
theorem Zz (f1:(lv ai 100 3).f 11 [.str s,.int i,.fW 0] []=some (.int p)):ex (lv ai 100 3) K (.asg 60 (.call 11 [(.var 59),(.var 58),(.gl 0)])) m=some (.next,sets m [(60,.fz (.int p))]):= aD ((HN (aa H.oY) (aa H.L8) (z:=.fW 0) rfl).trans f1) H.Uz
theorem ZA (f2:(lv ai 100 3).f 13 [.str s,.int p] []=some (.int j)):ex (lv ai 100 3) K (.asg 61 (.call 13 [(.var 59),(.var 60)])) (sets m [(60,.fz (.int p))])=some (.next,sets m [(61,.fz (.int j)),(60,.fz (.int p))]):= aD (m:=sets m [(60,.fz (.int p))]) ((call2 (m:=sets m [(60,.fz (.int p))]) (a:=.var 59) (b:=.var 60) (aa (gl H.oY)) (aa (gl rfl))).trans f2) (nl H.h61)
omit H in
theorem ZC:tr (lv ai 100 3) (sets m [(61,.fz (.int j)),(60,.fz (.int p))]) (.cmp .eq (.var 61) (.var 60))=some (j==p):=aU (aa (gl rfl)) (aa (gl rfl)) rfl
theorem Em (f1:(lv ai 100 3).f 11 [.str s,.int i,.fW 0] []=some (.int p)) (f2:(lv ai 100 3).f 13 [.str s,.int p] []=some (.int j)) (h:j≠p):ir (lv ai 100 3) K rf m=some (.next,sets m (D1 p j)):=
 (af (Zz H f1)).trans<|(af (ZA H f2)).trans<|(af ((bB (ZC.trans (congrArg some (beq_eq_false_iff_ne.mpr h)))).trans aK)).trans<|
 (af (aD (m:=sets m [(61,.fz (.int j)),(60,.fz (.int p))]) (aF (x:=.int j) (aa (gl rfl)) ay rfl) (kI (gl (y:=58) H.L8)))).trans aK
theorem lvD:L6 (sets m (D1 p j)) s (j+1) acc:=⟨gl H.WB,gl rfl,gl H.oY,cP (gl rfl),cP (gl rfl),nl H.Zy⟩
theorem En {q:List Nat} {j2:V} (hq:r.q=q) (f1:(lv ai 100 3).f 11 [.str s,.int i,.fW 0] []=some (.int p)) (f2:(lv ai 100 3).f 13 [.str s,.int p] []=some (.int p)) (f3:(lv ai 100 3).f 14 [.str s,.int p] []=some (.tup [.int j,.str q]))
  (f4:(lv ai 100 3).f 11 [.str s,.int j,.fW 0] []=some j2) (f5:(lv ai 100 3).f 13 [.str s,j2] []=some (.int l)) (f6:(((lv ai 100 3).f 6 [.str [47],.str q] []).bind fun v=>(lv ai 100 3).f 9 [v] [])=some (.str (bf r.m)))
  (I1:p-i=(r.w.length:Int)) (ha:acc.length<900):ir (lv ai 100 3) K rf m=some (.next,sets m (A6 r acc p j l)):=by
 subst hq;have c9:ev (lv ai 100 3) (sets m (A3 r.q p j)) (.call 9 [(.call 6 [(.cn (.str [47])),(.var 13)])])=some (.str (bf r.m)):=by
  have c6:=call2 (C:=lv ai 100 3) (m:=sets m (A3 r.q p j)) (f:=6) (b:=.var 13) (ay (v:=.str [47])) (aa (gl rfl));cases h6:(lv ai 100 3).f 6 [.str [47],.str r.q] [] with
  |none=>rw [h6] at f6;cases f6
  |some z=>rw [h6] at f6;exact (iw (c6.trans h6)).trans f6
 exact (af (Zz H f1)).trans<|(af (ZA H f2)).trans<|(af ((dX (ZC.trans (congrArg some (beq_self_eq_true p)))).trans<|
  (af (m':=sets m (A3 r.q p j)) (Ef (x:=61) (y:=13) (m:=sets m [(61,.fz (.int p)),(60,.fz (.int p))]) ((call2 (m:=sets m [(61,.fz (.int p)),(60,.fz (.int p))]) (a:=.var 59) (b:=.var 60) (aa (gl H.oY)) (aa (gl rfl))).trans f3) (cP (gl rfl)) (nl (y:=13) H.Zy) (by decide))).trans<|
  (af (m':=sets m (A4 r acc p j)) (kJ (m:=sets m (A3 r.q p j)) (gl H.WB) (IG (aa (gl rfl)) (aF (op:=.sub) (a:=.var 60) (b:=.var 58) (aa (gl rfl)) (aa (gl H.L8)) (congrArg (some<|V.int ·) I1)) c9) (A1 ha))).trans<|
  (af (m':=sets m ((61,.fz (.int l))::A4 r acc p j)) (aD (m:=sets m (A4 r acc p j)) ((call2 (m:=sets m (A4 r acc p j)) (a:=.var 59) (b:=.call 11 [(.var 59),(.var 61),(.gl 0)]) (y:=j2) (aa (gl H.oY)) ((HN (m:=sets m (A4 r acc p j)) (a:=.var 59) (b:=.var 61) (z:=.fW 0) (aa (gl H.oY)) (aa (gl rfl)) rfl).trans f4)).trans f5) (cP (gl rfl)))).trans aK)).trans<|
  (af (m':=sets m (A6 r acc p j l)) (aD (m:=sets m ((61,.fz (.int l))::A4 r acc p j)) (aF (x:=.int l) (aa (gl rfl)) ay rfl) (kI (gl (y:=58) H.L8)))).trans aK
theorem lvA:L6 (sets m (A6 r acc p j l)) s (l+1) (acc++[.tup [.int p,.int (r.w.length:Int),.str (bf r.m)]]):=⟨gl rfl,gl rfl,gl H.oY,cP (gl rfl),cP (gl rfl),cP (gl rfl)⟩
end
theorem zG {v:List Nat} {r:Row} {acc:List V} (H:L6 m s i acc) (ok:gK r) (h0:0≤i) (h:s.drop i.toNat=r.text++v) (hl:s.length<900000) (ha:acc.length<900):
  ∃m',ir (lv ai 100 3) K rf m=some (.next,m')∧L6 m' s (i+(r.text.length:Int)) (acc++(if r.dead then [] else [.tup [.int (i+(r.w.length:Int)),.int (r.w.length:Int),.str (bf r.m)]])):=by
 obtain ⟨p,hp⟩:∃p:Int,p=i+(r.w.length:Int):=⟨_,rfl⟩;cases hd:r.dead with
 |true=>
  have ht:r.text=r.w++(35::(r.core++[10])):=by unfold Row.text;rw [hd];rfl
  have h':s.drop i.toNat=r.w++35::(r.core++10::v):=by rw [h,ht];simp
  obtain ⟨i1,i2⟩:=dr h0 h' hl;rw [←hp] at i1 i2;have f1:(lv ai 100 3).f 11 [.str s,.int i,.fW 0] []=some (.int p):=by rw [hp];exact Ur (n:=2) (c:=35) hl ⟨h0,by rw [hp] at i1;exact Ug i1.2⟩ h' ok.w1 (by decide) (xZ ok.w2)
  have f2:=yc (n:=1) (K:=100) i1 i2 ok.k1 hl ok.k2;obtain ⟨j,hj⟩:∃j:Int,j=p+1+(r.core.length:Int):=⟨_,rfl⟩;rw [←hj] at f2;have hlt:(r.text.length:Int)=(r.w.length:Int)+1+(r.core.length:Int)+1:=by rw [ht];simp;exact QV
  have wg:i+(r.text.length:Int)=j+1:=QX hp hj hlt;rw [wg,if_pos rfl,List.append_nil];exact ⟨_,Em H f1 f2 (QY (QT hj)),lvD H⟩
 |false=>
  have ht:r.text=r.w++(r.core++[10]):=by unfold Row.text;rw [hd];rfl
  have h':s.drop i.toNat=r.w++39::(r.q++39::(r.tl++10::v)):=by rw [h,ht];unfold Row.core;simp
  obtain ⟨i1,i2⟩:=dr h0 h' hl;rw [←hp] at i1 i2;have f1:(lv ai 100 3).f 11 [.str s,.int i,.fW 0] []=some (.int p):=by rw [hp];exact Ur (n:=2) (c:=39) hl ⟨h0,by rw [hp] at i1;exact Ug i1.2⟩ h' ok.w1 (by decide) (xZ ok.w2)
  have f2:(lv ai 100 3).f 13 [.str s,.int p] []=some (.int p):=Bx (n:=2) i1 (HQ i2) (by decide);have f3:=Wu (n:=1) (K:=100) i1 i2 ok.q1 hl ok.q2;obtain ⟨j,hj⟩:∃j:Int,j=p+1+(r.q.length:Int)+1:=⟨_,rfl⟩;rw [←hj] at f3;have i3:s.drop j.toNat=r.tl++10::v:=by
   have e:s.drop p.toNat=(39::(r.q++[39]))++(r.tl++10::v):=by rw [i2];simp
   have e1:j.toNat=p.toNat+(39::(r.q++[39])).length:=by simp;exact ox1 i1.1 hj
   rw [e1,←List.drop_drop,e,List.drop_left]
  obtain ⟨j2,f4,f5⟩:=El ok (ox2 i1.1 hj) i3 hl;obtain ⟨l,hl2⟩:∃l:Int,l=j+(r.tl.length:Int):=⟨_,rfl⟩;rw [←hl2] at f5;have f6:=kK (WA r.u ok.u6 r.m ok.Ek);have hlt:(r.text.length:Int)=(r.w.length:Int)+1+(r.q.length:Int)+1+(r.tl.length:Int)+1:=by rw [ht];unfold Row.core;simp;exact Q2
  have wg:i+(r.text.length:Int)=l+1:=Q3 hp hj hl2 hlt;rw [wg,if_neg (by simp),←hp];exact ⟨_,En H rfl f1 f2 f3 f4 f5 f6 (Q4 hj hl2 hlt wg) ha,lvA H⟩
theorem pV {s:List Nat} (hl:s.length<900000):∀(rs:List Row) (i:Int) (m:ao) (acc:List V) (k:Nat),L6 m s i acc→(∀r∈rs,gK r)→0≤i→i≤(s.length:Int)→s.drop i.toNat=aB rs→rs.length<k→acc.length+rs.length<900→
  ∃m',tG (qT (lv ai 100 3) (.cmp .lt (.var 58) (.bi .len [(.var 59)]))) (ir (lv ai 100 3) 100 rf) k m=some (.next,m')∧ah m' 57=some (.own (acc++eK i rs))
 |[],i,m,acc,k,H,hr,h0,h1,hd,hk,ha=>by obtain ⟨k,rfl⟩:∃j,k=j+1:=⟨k-1,by simp at hk;exact D4 hk⟩;have hlen:=congrArg List.length hd;simp only [List.length_drop,aB,List.flatMap_nil,List.length_nil] at hlen;refine ⟨m,fY ?_,by rw [eK,List.append_nil];exact H.WB⟩;refine aU (aa H.L8) (y:=.int (s.length:Int)) (by rw [Eb,jR,aa H.oY,jO];rfl) ?_;show some (decide (i<(s.length:Int)))=_;rw [decide_eq_false (by exact QS h0 hlen)]
 |r::rs,i,m,acc,k,H,hr,h0,h1,hd,hk,ha=>by
  obtain ⟨k,rfl⟩:∃j,k=j+1:=⟨k-1,by simp at hk;exact D6 hk⟩;rw [List.length_cons] at hk ha;have hd':s.drop i.toNat=r.text++aB rs:=by rw [hd,aB,List.flatMap_cons];rfl
  have hlen:=congrArg List.length hd';simp only [List.length_drop,List.length_append] at hlen;have hpos:0<r.text.length:=by unfold Row.text Row.core;split <;>simp <;>omega
  obtain ⟨m',s1,s2⟩:=zG (K:=100) H (hr r (by simp)) h0 hd' hl (QW ha);have hd2:s.drop (i+(r.text.length:Int)).toNat=aB rs:=by have e1:(i+(r.text.length:Int)).toNat=i.toNat+r.text.length:=Bc h0;rw [e1,←List.drop_drop,hd',List.drop_left]
  obtain ⟨HP,t1,t2⟩:=pV hl rs (i+(r.text.length:Int)) m' _ k s2 (fun x hx=>hr x (by simp [hx])) (Ba h0) (QZ hlen hpos) hd2 (zz hk) (by
   rw [List.length_append]
   split <;>simp <;>omega)
  refine ⟨HP,?_,by rw [eK,t2,List.append_assoc]⟩;rw [jS (m':=m') ?_ s1]
  ·exact t1
  ·refine aU (aa H.L8) (y:=.int (s.length:Int)) (by rw [Eb,jR,aa H.oY,jO];rfl) ?_;show some (decide (i<(s.length:Int)))=_;rw [decide_eq_true (by exact Q0 hlen hpos)]
theorem BC {rs:List Row} (hr:∀r∈rs,gK r) (hn:rs.length<90) (hl:(aB rs).length<900000):(lv ai 100 4).f 19 [.str (aB rs)] []=some (.lst (eK 0 rs)):=by
 rw [gS];show outF (exs (lv ai 100 3) 100 V9 [(59,.fz (.str (aB rs)))])=_;unfold V9;have e1:ex (lv ai 100 3) 100 (.bE 57 []) [(59,.fz (.str (aB rs)))]=some (.next,[(59,.fz (.str (aB rs))),(57,.own [])]):=by rw [IF,jO];rfl
 have e2:ex (lv ai 100 3) 100 (.asg 58 (.cn (.int 0))) [(59,.fz (.str (aB rs))),(57,.own [])]=some (.next,[(59,.fz (.str (aB rs))),(57,.own []),(58,.fz (.int 0))]):=aD ay (bh rfl);obtain ⟨m',l1,l2⟩:=pV hl rs 0 [(59,.fz (.str (aB rs))),(57,.own []),(58,.fz (.int 0))] [] 100 ⟨rfl,rfl,rfl,by simp [ah],by simp [ah],by simp [ah]⟩ hr (by decide) (by exact HK) (by simp) (A2 hn) (by simp;exact QU hn);rw [af e1,af e2,af (by rw [mV];exact l1),aY (q9 l2)];rfl
end
variable {r:Row} {rs Hr:List Row}
section
theorem RI:∀m,m<64→qX ((lv ai 100 4).f 20 [.str (bf m)] []) (pc m)=true:=by decide+kernel
theorem ZD:∀m,m<64→(aW m).foldl (fun s k=>s+2^(k-1)) 0=m:=by decide+kernel
theorem map_inj {α β:Type} {f:α→β} (hf:∀a b,f a=f b→a=b):∀x y:List α,x.map f=y.map f→x=y
 |[],[],_=>rfl
 |[],_::_,h=>by cases h
 |_::_,[],h=>by cases h
 |a::r,b::t,h=>by simp only [List.map_cons,List.cons.injEq] at h;rw [hf _ _ h.1,map_inj hf _ _ h.2]
theorem rg {a b:Nat} (ha:a<64) (hb:b<64) (h:bf a=bf b):a=b:=by have h1:=(kL a ha).1;have h2:=(kL b hb).1;rw [h,h2] at h1;have h3:=map_inj (fun _ _=>q8) _ _ h1;rw [←ZD a ha,←ZD b hb,h3]
noncomputable def inR (p:Nat) (r:Row):Bool:=decide (dst r.m p≤(r.w.length:Int))
noncomputable def stk (p:Nat) (r:Row):Row:={r with dead:=r.dead||inR p r}
structure HR (m:ao) (t P:List Nat):Prop where
 oY:ah m 59=some (.fz (.str t))
 UA:ah m 70=some (.fz (.str P))
 Uz:∀ys,ah m 60≠some (.own ys)
 ZE:∀ys,ah m 71≠some (.own ys)
 ZF:∀ys,ah m 72≠some (.own ys)
noncomputable abbrev kM:List PS:=[.fH (.cmp .le (.call 22 [(.var 72),(.var 70)]) (.var 71)) [.asg 59 (.bin .add (.bin .add (.slc (.var 59) none (some (.var 60)) none) (.cn (.str [35]))) (.slc (.var 59) (some (.var 60)) none none))] []]
noncomputable abbrev Fr (xs:List Nat) (m m':ao):Prop:=∀x,x∉xs→ah m' x=ah m x
theorem add_str {C:Calls} {x y:List Nat} (h1:ev C m a=some (.str x)) (h2:ev C m b=some (.str y)) (hl:x.length+y.length<1000000):ev C m (.bin .add a b)=some (.str (x++y)):= aF h1 h2 (by exact if_pos (by rw [ck];exact Nat.ble_eq.mpr (Nf hl)))
theorem I2 {C:Calls} {p:Int} (h1:ah m x=some (.fz (.str s))) (h2:ah m y=some (.fz (.int p))) (hp:bT p):ev C m (.slc (.var x) none (some (.var y)) none)=some (.str (s.take p.toNat)):=tV (aa h1) rfl (iy (aa h2)) rfl (m9 (l:=none) rfl (cA hp))
theorem I3 {C:Calls} {p:Int} (h1:ah m x=some (.fz (.str s))) (h2:ah m y=some (.fz (.int p))) (hp:bT p):ev C m (.slc (.var x) (some (.var y)) none none)=some (.str (s.drop p.toNat)):=tV (aa h1) (iy (aa h2)) rfl rfl ((m9 (cA hp) rfl).trans (by rw [IJ]))
theorem yp {post:Nat}:∀A:List Row,(aB (A.map (stk post))).length≤(aB A).length+A.length
 |[]=>by simp [aB]
 |a::A=>by
  have ih:=yp (post:=post) A;simp only [aB,List.map_cons,List.flatMap_cons,List.length_append,List.length_cons] at ih⊢;have:(stk post a).text.length≤a.text.length+1:=by unfold Row.text stk;show (a.w++(if (a.dead||inR post a)=true then 35::(a.core++[10]) else a.core++[10])).length≤_;simp only [List.length_append];cases a.dead <;>cases inR post a <;>simp <;>exact Ni
  exact Nj ih this
section
variable {post:Nat} {r:Row} {p:Int} {pre U ri:List Nat} {m m':ao}
noncomputable def K3 (p:Int) (r:Row):List (Nat×Sl):=[(72,.fz (.str (bf r.m))),(71,.fz (.int (r.w.length:Int))),(60,.fz (.int p))]
theorem yq {xs:List Nat} (h:(l.map (·.1)).all xs.contains=true):Fr xs m (sets m l):=fun x hx=>by
 have:x∉l.map (·.1):=fun q=>hx (List.contains_iff_mem.mp (List.all_eq_true.mp h x q));clear h hx;induction l with
 |nil=>rfl
 |cons a l ih=> rw [List.map_cons,List.mem_cons,not_or] at this;exact (aR _ _ this.1).trans (ih this.2)
theorem BE (H:HR m U (bf post)):bQ m (.many [60,71,72]) (.tup [.int p,.int (r.w.length:Int),.str (bf r.m)])=some (sets m (K3 p r)):=Bv H.Uz H.ZE H.ZF (by decide) (by decide) (by decide)
theorem WC (zH:post<64) (ok:gK r) (hc:Cons r.m post) (H:HR m U (bf post)):tr (lv ai 100 4) (sets m (K3 p r)) (.cmp .le (.call 22 [(.var 72),(.var 70)]) (.var 71))=some (inR post r):= aU ((call2 (m:=sets m (K3 p r)) (a:=.var 72) (b:=.var 70) (aa (gl rfl)) (aa (gl H.UA))).trans (IZ ok.Ek zH hc)) (aa (gl rfl)) rfl
theorem wh (zH:post<64) (ok:gK r) (hc:Cons r.m post) (hd:r.dead=false) (H:HR m ((pre++r.text)++U++ri) (bf post)) (ZG:p.toNat=(pre++r.w).length) (I1:bT p) (hl:((pre++r.text)++U++ri).length+1<1000000):
  ∃m',fK (lv ai 100 4) 100 (.many [60,71,72]) kM m (.tup [.int p,.int (r.w.length:Int),.str (bf r.m)])=some (.next,m')∧HR m' ((pre++(stk post r).text)++U++ri) (bf post)∧Fr [59,60,71,72] m m':=by
 have ht:=WC (p:=p) zH ok hc H;cases hin:inR post r with
 |false=>
  rw [hin] at ht;refine ⟨_,bb (BE H) ((af ((bB ht).trans aK)).trans aK),?_,yq rfl⟩;have:(stk post r).text=r.text:=by unfold stk Row.text;rw [hd,hin];rfl
  rw [this];exact ⟨gl H.oY,gl H.UA,cP (gl rfl),cP (gl rfl),cP (gl rfl)⟩
 |true=>
  rw [hin] at ht;have htx:r.text=r.w++(r.core++[10]):=by unfold Row.text;rw [hd];rfl
  have hs:(pre++r.text)++U++ri=(pre++r.w)++((r.core++[10])++U++ri):=by rw [htx];simp only [List.append_assoc]
  rw [hs,List.length_append] at hl;have e1:=I2 (C:=lv ai 100 4) (m:=sets m (K3 p r)) (x:=59) (y:=60) (gl H.oY) (gl rfl) I1;have e2:=I3 (C:=lv ai 100 4) (m:=sets m (K3 p r)) (x:=59) (y:=60) (gl H.oY) (gl rfl) I1;rw [hs,ZG,List.take_left] at e1;rw [hs,ZG,List.drop_left] at e2;have e4:=add_str (add_str e1 (ay (v:=.str [35])) (by rw [List.length_singleton];exact Vc hl)) e2 (by rw [List.length_append,List.length_singleton];exact Vd hl);have e:(pre++(stk post r).text)++U++ri=(pre++r.w++[35])++((r.core++[10])++U++ri):=by
   have:(stk post r).text=r.w++35::(r.core++[10]):=by unfold stk Row.text;rw [hd,hin];rfl
   rw [this];simp
  rw [e]
  exact ⟨sets m ((59,.fz (.str ((pre++r.w++[35])++((r.core++[10])++U++ri))))::K3 p r),bb (BE H) ((af ((dX ht).trans ((af (aD e4 (kI (gl (y:=59) H.oY)))).trans aK))).trans aK),
   ⟨gl rfl,gl H.UA,cP (gl rfl),cP (gl rfl),cP (gl rfl)⟩,yq rfl⟩
end
theorem lI {post:Nat} (zH:post<64):∀(A:List Row) (i:Int) (m:ao) (pre ri:List Nat) (b:List V),i=(pre.length:Int)→(∀r∈A,gK r∧Cons r.m post)→HR m (pre++aB A++ri) (bf post)→(pre++aB A++ri).length+A.length<900000→
  ∃m',forL (fK (lv ai 100 4) 100 (.many [60,71,72]) kM) ((eK i A).reverse++b) m=forL (fK (lv ai 100 4) 100 (.many [60,71,72]) kM) b m'∧HR m' (pre++aB (A.map (stk post))++ri) (bf post)∧Fr [59,60,71,72] m m'
 |[],i,m,pre,ri,b,hi,hr,H,hl=>⟨m,rfl,H,fun _ _=>rfl⟩
 |r::A,i,m,pre,ri,b,hi,hr,H,hl=>by
  have ht:pre++aB (r::A)++ri=(pre++r.text)++aB A++ri:=by rw [aB,List.flatMap_cons];simp [aB]
  rw [ht] at H hl;rw [List.length_cons] at hl;obtain ⟨ok,RJ⟩:=hr r (List.mem_cons_self ..);obtain ⟨m1,s1,s2,s3⟩:=lI zH A (i+(r.text.length:Int)) m (pre++r.text) ri ((if r.dead then [] else [V.tup [.int (i+(r.w.length:Int)),.int (r.w.length:Int),.str (bf r.m)]]).reverse++b) (by rw [List.length_append];exact Ng hi) (fun x hx=>hr x (List.mem_cons_of_mem _ hx)) H (Nh hl);have hml:=yp (post:=post) A;have hT:pre++aB ((r::A).map (stk post))++ri=pre++(stk post r).text++aB (A.map (stk post))++ri:=by rw [List.map_cons,aB,List.flatMap_cons];simp [aB]
  rw [eK,List.reverse_append,List.append_assoc,s1,hT];cases hd:r.dead with
  |true=>
   refine ⟨m1,rfl,?_,s3⟩;have:(stk post r).text=r.text:=by unfold stk Row.text;rw [hd];rfl
   rw [this];exact s2
  |false=> simp only [List.length_append] at hl;have WD:=ok.w2;obtain ⟨m2,t1,t2,t3⟩:=wh (p:=i+(r.w.length:Int)) zH ok RJ hd s2 (by rw [List.length_append];exact Nl hi rfl) ⟨Nm hi rfl,Nn hi WD rfl hl⟩ (by simp only [List.length_append];exact Vb hl hml);exact ⟨m2,aL t1,t2,fun x hx=>(t3 x hx).trans (s3 x hx)⟩
end
section
noncomputable def tp (r:Row):Nat:=fL r.m r.w.length
noncomputable def jz (r:Row):Key:=(-(pc (tp r):Int),bf r.m,(r.w.length:Int))
noncomputable def dc (d:Row→Bool) (rs:List Row):List Row:=rs.map fun r=>{r with dead:=d r}
structure iA (rs:List Row):Prop where
 ok:∀r∈rs,gK r
 len:rs.length≤7
 inj:∀r∈rs,∀r'∈rs,r.m=r'.m→r=r'
 I4:∀r∈rs,tp r<64
 cons:∀r∈rs,∀r'∈rs,Cons r.m (tp r')
 own:∀r∈rs,inR (tp r) r=true
 core:∀r∈rs,r.core.length<1000
structure MI (rs:List Row) (d:Row→Bool) (xs:List Key) (Hr:List Row):Prop where
 heap:Heap xs
 RK:∀x∈xs,∃r∈rs,x=jz r
 all:∀r∈rs,d r=true∨jz r∈xs
 hin:∀h∈Hr,h∈rs∧d h=true
 HT:∀r∈rs,d r=true→∃h∈Hr,inR (tp h) r=true
 RL:∀r∈rs,d r=false→∀h∈Hr,inR (tp h) r=false
 par:Hr.Pairwise fun h h'=>inR (tp h) h'=false∧pc (tp h')≤pc (tp h)
 lo:∀h∈Hr,∀x∈xs,-(pc (tp h):Int)≤x.1
theorem yr (S:iA rs) {r':Row} (h:r∈rs) (h':r'∈rs) (e:jz r=jz r'):r=r':= S.inj r h r' h' (rg (S.ok r h).Ek (S.ok r' h').Ek (congrArg (fun k=>k.2.1) e))
theorem Eo {d:Row→Bool} (S:iA rs) (I:MI rs d xs Hr) (hr:r∈rs) (hh:Heap rest) (hp:xs.Perm (jz r::rest)) (hd:d r=true):MI rs d rest Hr where
 heap:=hh
 RK x hx:=I.RK x (hp.symm.subset (List.mem_cons_of_mem _ hx))
 all y hy:=by
  rcases I.all y hy with q|q
  ·exact .inl q
  ·rcases List.mem_cons.mp (hp.subset q) with e|e
   ·exact .inl (yr S hy hr e▸hd)
   ·exact .inr e
 hin:=I.hin
 HT:=I.HT
 RL:=I.RL
 par:=I.par
 lo h hh x hx:=I.lo h hh x (hp.symm.subset (List.mem_cons_of_mem _ hx))
theorem Ep {d:Row→Bool} (S:iA rs) (I:MI rs d xs Hr) (hr:r∈rs) (hh:Heap rest) (hp:xs.Perm (jz r::rest)) (hmin:∀y∈xs,(jz r).1≤y.1) (hd:d r=false):
  MI rs (fun x=>d x||inR (tp r) x) rest (Hr++[r]) where
 heap:=hh
 RK x hx:=I.RK x (hp.symm.subset (List.mem_cons_of_mem _ hx))
 all y hy:=by
  rcases I.all y hy with q|q
  ·left;simp [q]
  ·rcases List.mem_cons.mp (hp.subset q) with e|e
   ·left;rw [yr S hy hr e,S.own r hr];simp
   ·exact .inr e
 hin h hh:=by
  rcases List.mem_append.mp hh with q|q
  ·exact ⟨(I.hin h q).1,by rw [(I.hin h q).2];rfl⟩
  ·obtain rfl:=List.mem_singleton.mp q;exact ⟨hr,by rw [S.own _ hr];simp⟩
 HT y hy WE:=by
  rcases Bool.or_eq_true_iff.mp WE with q|q
  ·obtain ⟨h,h1,h2⟩:=I.HT y hy q;exact ⟨h,List.mem_append_left _ h1,h2⟩
  ·exact ⟨r,List.mem_append_right _ (List.mem_singleton.mpr rfl),q⟩
 RL y hy WE h hh:=by
  obtain ⟨q1,q2⟩:=Bool.or_eq_false_iff.mp WE;rcases List.mem_append.mp hh with q|q
  ·exact I.RL y hy q1 h q
  ·obtain rfl:=List.mem_singleton.mp q;exact q2
 par:=by rw [List.pairwise_append];refine ⟨I.par,List.pairwise_singleton ..,?_⟩;intro h hh h' hh';obtain rfl:=List.mem_singleton.mp hh';refine ⟨I.RL _ hr hd h hh,?_⟩;have:=I.lo h hh (jz h') (hp.symm.subset (List.mem_cons_self ..));simp only [jz] at this;exact MU this
 lo h hh x hx:=by
  have hx':=hp.symm.subset (List.mem_cons_of_mem _ hx);rcases List.mem_append.mp hh with q|q
  ·exact I.lo h q x hx'
  ·obtain rfl:=List.mem_singleton.mp q;exact hmin x hx'
noncomputable def RM (rs:List Row):List (List Nat):=(rs.filter fun r=>!r.dead).map fun r=>bf r.m
theorem kO {C:Calls} {m:ao} (WG:∀ys,ah m 69≠some (.own ys)):∀(rs:List Row) (i:Int),
  bK (fun x=>(bQ m (.one 69) x).bind fun m'=>(Bp C m' none).bind fun ok=>if ok then (ev C m' (.idx (.var 69) (.cn (.int 2)))).map some else some none) (eK i rs)=some ((RM rs).map .str)
 |[],i=>rfl
 |r::rs,i=>by
  rw [eK,RM];cases hd:r.dead with
  |true=> rw [if_pos rfl,List.nil_append,List.filter_cons_of_neg (by rw [hd];decide)];exact kO WG rs _
  |false=>
   rw [if_neg (by decide),List.cons_append,List.nil_append,List.filter_cons_of_pos (by rw [hd];decide),bK,kO WG rs _];have e:bQ m (.one 69) (.tup [.int (i+(r.w.length:Int)),.int (r.w.length:Int),.str (bf r.m)])=some (ak m 69 (.fz (.tup [.int (i+(r.w.length:Int)),.int (r.w.length:Int),.str (bf r.m)]))):=by exact cy WG
   rw [e];simp only [Option.bind_some,LW,IE,↓reduceIte];rw [Rt,aa (au ..),ay];simp only [Option.bind_some];rw [Rx (c:=.str (bf r.m)) (by decide) rfl];rfl
theorem BF {d:Row→Bool} (S:iA rs) (hr:r∈rs):(RM (dc d rs)).contains (bf r.m)=!d r:=by
 cases hd:d r with
 |false=> rw [Bool.not_false,List.contains_iff_mem];refine List.mem_map.mpr ⟨{r with dead:=d r},List.mem_filter.mpr ⟨List.mem_map.mpr ⟨r,hr,rfl⟩,by rw [hd];rfl⟩,rfl⟩
 |true=> rw [Bool.not_true,←Bool.not_eq_true,List.contains_iff_mem];intro h;obtain ⟨x,h1,h2⟩:=List.mem_map.mp h;obtain ⟨h3,h4⟩:=List.mem_filter.mp h1;obtain ⟨y,h5,rfl⟩:=List.mem_map.mp h3;have:y=r:=S.inj y h5 r hr (rg (S.ok y h5).Ek (S.ok r hr).Ek h2);subst this;have ZH:(!d y)=true:=h4;rw [hd] at ZH;cases ZH
theorem rj {d:Row→Bool} (S:iA rs):∀r∈dc d rs,gK r:=by intro x hx;obtain ⟨r,hr,rfl⟩:=List.mem_map.mp hx;have:=S.ok r hr;exact ⟨this.w1,this.w2,this.u6,this.Ek,this.q1,this.q2,this.b1,this.b2,this.c1,this.k1,this.k2⟩
theorem iT:∀(rs:List Row),(∀r∈rs,r.w.length<3∧r.core.length<1000)→(aB rs).length≤rs.length*1010
 |[],_=>by simp [aB]
 |r::rs,h=>by
  have ih:=iT rs fun x hx=>h x (by simp [hx]);have h1:=h r (by simp);rw [aB,List.flatMap_cons,List.length_append,List.length_cons,Nat.add_mul];have:r.text.length≤1010:=by unfold Row.text;rw [List.length_append];split <;>simp only [List.length_append,List.length_cons,List.length_nil] <;>omega
  unfold aB at ih;exact MW ih this
theorem ni {d:Row→Bool} (S:iA rs):(aB (dc d rs)).length<8000:=by
 have h1:=iT (dc d rs) (by
  intro x hx;refine ⟨(rj S x hx).w2,?_⟩;obtain ⟨r,hr,rfl⟩:=List.mem_map.mp hx
  exact S.core r hr)
 have h2:(dc d rs).length≤7:=by rw [dc,List.length_map];exact S.len
 exact MV h1 h2
theorem BG {d:Row→Bool} {p:Nat}:(dc d rs).map (stk p)=dc (fun x=>d x||inR p x) rs:=by unfold dc;rw [List.map_map];rfl
structure Mv (m:ao) (rs:List Row) (d:Row→Bool) (xs:List Key) (Hr:List Row):Prop where
 h0:ah m 0=some (.own (xs.map kv))
 oY:ah m 59=some (.fz (.str (aB (dc d rs))))
 Ma:ah m 67=some (.own (Hr.map fun h=>.str (bf (tp h))))
 RN:ah m 68=some (.own (Hr.map fun h=>.str (bf h.m)))
 no:∀x∈[13,57,60,63,69,70,71,72],∀ys,ah m x≠some (.own ys)
noncomputable abbrev BH:List PS:=[.D8 [13,63] 1 0 (.cn (.int 1)),.asg 57 (.call 19 [(.var 59)]),.fH (.cmp .isin (.var 13) (.comp (.idx (.var 69) (.cn (.int 2))) (.one 69) (.var 57) none)) [.asg 70 (.call 21 [(.var 13),(.var 63)]),.app 68 (.var 13),.app 67 (.var 70),.dW (.many [60,71,72]) (.slc (.var 57) none none (some (.neg (.cn (.int 1))))) kM] []]
section
variable {rs:List Row} {d:Row→Bool} {xs rest:List Key} {Hr:List Row} {m m':ao} {r:Row} (S:iA rs) (H:Mv m rs d xs Hr)
noncomputable def L1 (r:Row) (rest:List Key):List (Nat×Sl):=[(63,.fz (.int (r.w.length:Int))),(13,.fz (.str (bf r.m))),(0,.own (rest.map kv))]
noncomputable def L2 (rs:List Row) (d:Row→Bool) (r:Row) (rest:List Key):List (Nat×Sl):=(57,.fz (.lst (eK 0 (dc d rs))))::L1 r rest
noncomputable def L3 (rs:List Row) (d:Row→Bool) (r:Row) (rest:List Key):List (Nat×Sl):=(70,.fz (.str (bf (tp r))))::L2 rs d r rest
noncomputable def L4 (rs:List Row) (d:Row→Bool) (r:Row) (rest:List Key) (Hr:List Row):List (Nat×Sl):=(68,.own ((Hr.map fun h=>V.str (bf h.m))++[.str (bf r.m)]))::L3 rs d r rest
noncomputable def L5 (rs:List Row) (d:Row→Bool) (r:Row) (rest:List Key) (Hr:List Row):List (Nat×Sl):=(67,.own ((Hr.map fun h=>V.str (bf (tp h)))++[.str (bf (tp r))]))::L4 rs d r rest Hr
include H
theorem mn1 (hio:(lv ai 100 4).io 1 (xs.map kv) []=some (kv (jz r),rest.map kv)):ex (lv ai 100 4) 100 (.D8 [13,63] 1 0 (.cn (.int 1))) m=some (.next,sets m (L1 r rest)):=
 bb (bu H.h0) (bb hio (bb ay (bb (a:=.tup [.str (bf r.m),.int (r.w.length:Int)]) rfl (by
  show (fq _ [13,63] [_,_]).map _=_;rw [Bu (LX (H.no 13 (by decide))) (LX (H.no 63 (by decide))) (by decide)]
  rfl))))
include S
theorem mn2:ex (lv ai 100 4) 100 (.asg 57 (.call 19 [(.var 59)])) (sets m (L1 r rest))=some (.next,sets m (L2 rs d r rest)):= aD (m:=sets m (L1 r rest)) ((iw (m:=sets m (L1 r rest)) (a:=.var 59) (aa (gl H.oY))).trans (BC (rs:=dc d rs) (rj S) (by rw [dc,List.length_map];exact Nat.lt_of_le_of_lt S.len (by decide)) (Nat.lt_trans (ni S) (by decide)))) (nl (H.no 57 (by decide)))
theorem mn3 (hr:r∈rs):tr (lv ai 100 4) (sets m (L2 rs d r rest)) (.cmp .isin (.var 13) (.comp (.idx (.var 69) (.cn (.int 2))) (.one 69) (.var 57) none))=some (!d r):=
 aU (y:=.lst ((RM (dc d rs)).map .str)) (aa (gl rfl)) (bb (aa (gl rfl)) (bb (x:=cO _) rfl (by rw [kO (m:=sets m (L2 rs d r rest)) (nl (H.no 69 (by decide)))];rfl))) (by
  rw [←BF (d:=d) S hr];show (bJ ((RM (dc d rs)).map V.str)).bind (fun l=>some (l.contains (bf r.m)))=_
  rw [cB];rfl)
omit S
theorem mv2:Mv (sets m (L2 rs d r rest)) rs d rest Hr where
 h0:=gl rfl
 oY:=gl H.oY
 Ma:=gl H.Ma
 RN:=gl H.RN
 no x hx ys e:=by
  revert ys;simp only [List.mem_cons,List.not_mem_nil,or_false] at hx;rcases hx with rfl|rfl|rfl|rfl|rfl|rfl|rfl|rfl
  ·exact cP (gl rfl)
  ·exact cP (gl rfl)
  ·exact nl (H.no 60 (by decide))
  ·exact cP (gl rfl)
  ·exact nl (H.no 69 (by decide))
  ·exact nl (H.no 70 (by decide))
  ·exact nl (H.no 71 (by decide))
  ·exact nl (H.no 72 (by decide))
theorem mn4 (hr:gK r) (UB:Hr.length<900) (h6:forL (fK (lv ai 100 4) 100 (.many [60,71,72]) kM) (eK 0 (dc d rs)).reverse (sets m (L5 rs d r rest Hr))=some (.next,m')):
  exs (lv ai 100 4) 100 [.asg 70 (.call 21 [(.var 13),(.var 63)]),.app 68 (.var 13),.app 67 (.var 70),.dW (.many [60,71,72]) (.slc (.var 57) none none (some (.neg (.cn (.int 1))))) kM] (sets m (L2 rs d r rest))=some (.next,m'):=
 (af (m':=sets m (L3 rs d r rest)) (aD (m:=sets m (L2 rs d r rest)) ((call2 (aa (gl rfl)) (aa (gl rfl))).trans (kK (Ry r.m hr.Ek r.w.length hr.w2))) (nl (H.no 70 (by decide))))).trans<|
 (af (m':=sets m (L4 rs d r rest Hr)) (kJ (m:=sets m (L3 rs d r rest)) (gl H.RN) (aa (gl rfl)) (by rw [List.length_map];exact A1 UB))).trans<|
 (af (m':=sets m (L5 rs d r rest Hr)) (kJ (m:=sets m (L4 rs d r rest Hr)) (gl H.Ma) (aa (gl rfl)) (by rw [List.length_map];exact A1 UB))).trans<|
 (af ((iu (v:=.lst (eK 0 (dc d rs)).reverse) (gp (tV (aa (gl rfl)) rfl rfl rfl rfl)) rfl).trans h6)).trans aK
omit H
theorem st5 (H:Mv m rs d xs Hr):HR (sets m (L5 rs d r rest Hr)) (aB (dc d rs)) (bf (tp r)):=⟨gl H.oY,gl rfl,nl (H.no 60 (by decide)),nl (H.no 71 (by decide)),nl (H.no 72 (by decide))⟩
theorem mv5 (H:Mv m rs d xs Hr) {t:List Nat} (s2:HR m' (aB (dc (fun x=>d x||inR (tp r) x) rs)) t) (s3:Fr [59,60,71,72] (sets m (L5 rs d r rest Hr)) m'):Mv m' rs (fun x=>d x||inR (tp r) x) rest (Hr++[r]) where
 h0:=(s3 0 (by decide)).trans (gl rfl)
 oY:=s2.oY
 Ma:=(s3 67 (by decide)).trans (gl (by rw [List.map_append];rfl))
 RN:=(s3 68 (by decide)).trans (gl (by rw [List.map_append];rfl))
 no x hx ys e:=by
  revert ys;simp only [List.mem_cons,List.not_mem_nil,or_false] at hx;rcases hx with rfl|rfl|rfl|rfl|rfl|rfl|rfl|rfl
  ·exact cP ((s3 13 (by decide)).trans (gl rfl))
  ·exact cP ((s3 57 (by decide)).trans (gl rfl))
  ·exact s2.Uz
  ·exact cP ((s3 63 (by decide)).trans (gl rfl))
  ·rw [s3 69 (by decide)];exact nl (H.no 69 (by decide))
  ·exact cP s2.UA
  ·exact s2.ZE
  ·exact s2.ZF
end
theorem zI {d:Row→Bool} (S:iA rs) (I:MI rs d xs Hr) (H:Mv m rs d xs Hr) (hne:xs≠[]) (hxl:xs.length<90) (UB:Hr.length<900):
  ∃m' d' rest HU,ir (lv ai 100 4) 100 BH m=some (.next,m')∧MI rs d' rest HU∧Mv m' rs d' rest HU∧xs.length=rest.length+1∧HU.length≤Hr.length+1:=by
 obtain ⟨a,rest,p1,p2,p3,p4⟩:=Eh I.heap hne;obtain ⟨r,hr,rfl⟩:=I.RK a (p3.symm.subset (List.mem_cons_self ..));have e1:=mn1 H (io1 (K:=100) (n:=1) hxl (by decide) p1);have e2:=mn2 (r:=r) (rest:=rest) S H;have e3:=mn3 (rest:=rest) S H hr;cases hd:d r with
 |true=> rw [hd] at e3;exact ⟨_,d,rest,Hr,(af e1).trans ((af e2).trans ((af ((bB e3).trans aK)).trans aK)),Eo S I hr p2 p3 hd,mv2 H,p3.length_eq,Nat.le_succ _⟩
 |false=>
  rw [hd] at e3
  obtain ⟨m',s1,s2,s3⟩:=lI (S.I4 r hr) (dc d rs) 0 (sets m (L5 rs d r rest Hr)) [] [] [] rfl (by
   intro x hx;refine ⟨rj S x hx,?_⟩;obtain ⟨y,hy,rfl⟩:=List.mem_map.mp hx;exact S.cons y hy r hr) (by rw [List.nil_append,List.append_nil];exact st5 H) (by
   rw [List.nil_append,List.append_nil];have h2:(dc d rs).length≤7:=by rw [dc,List.length_map];exact S.len
   exact MX (ni S) h2)
  rw [List.append_nil,jT] at s1;rw [List.nil_append,List.append_nil,BG] at s2;exact ⟨m',fun x=>d x||inR (tp r) x,rest,Hr++[r],(af e1).trans ((af e2).trans ((af ((dX e3).trans (mn4 H (S.ok r hr) UB s1))).trans aK)),Ep S I hr p2 p3 p4 hd,mv5 H s2 s3,p3.length_eq,by rw [List.length_append];exact Nat.le_refl _⟩
end
theorem pW {rs:List Row} (S:iA rs):∀(k:Nat) (m:ao) (d:Row→Bool) (xs:List Key) (Hr:List Row),MI rs d xs Hr→Mv m rs d xs Hr→xs.length+Hr.length≤80→xs.length<k→
  ∃m' d' HU,tG (qT (lv ai 100 4) (.cJ 0)) (ir (lv ai 100 4) 100 BH) k m=some (.next,m')∧MI rs d' [] HU∧Mv m' rs d' [] HU
 |0,m,d,xs,Hr,I,H,h1,h2=>by exact (IC h2).elim
 |k+1,m,d,[],Hr,I,H,h1,h2=>⟨m,d,Hr,fY (by show tr _ m _=_;rw [Uo,bu H.h0];rfl),I,H⟩
 |k+1,m,d,x::xs,Hr,I,H,h1,h2=>by rw [List.length_cons] at h1 h2;obtain ⟨m1,d1,rest,Hr1,s1,s2,s3,s4,s5⟩:=zI S I H (by simp) (by rw [List.length_cons];exact N8 h1) (N9 h1);rw [List.length_cons] at s4;obtain ⟨m',d',HU,t1,t2,t3⟩:=pW S k m1 d1 rest Hr1 s2 s3 (Oa h1 s4 s5) (Ob h2 s4);exact ⟨m',d',HU,by rw [jS (by show tr _ m _=_;rw [Uo,bu H.h0];rfl) s1];exact t1,t2,t3⟩
structure Mp (m:ao) (xs:List Key):Prop where
 h0:ah m 0=some (.own (xs.map kv))
 no:∀x∈[60,63,13],∀ys,ah m x≠some (.own ys)
noncomputable abbrev wj:List PS:=[.io 0 0 [(.tup [(.neg (.call 20 [(.call 21 [(.var 13),(.var 63)])])),(.var 13),(.var 63)])]]
theorem qO {C:Calls} (h:ev C m e=some (.int i)):ev C m (.neg e)=some (.int (-i)):=bb h rfl
theorem pX:∀(A:List Row) (i:Int) (m:ao) (xs:List Key),(∀r∈A,gK r∧r.dead=false∧tp r<64)→Mp m xs→Heap xs→xs.length+A.length<80→
  ∃m' xs',forL (fK (lv ai 100 4) 100 (.many [60,63,13]) wj) (eK i A) m=some (.next,m')∧Heap xs'∧(∀x,x∈xs'↔x∈xs∨∃r∈A,x=jz r)∧xs'.length=xs.length+A.length∧Mp m' xs'∧Fr [0,60,63,13] m m'
 |[],i,m,xs,hr,H,hh,hl=>⟨m,xs,rfl,hh,by simp,rfl,H,fun _ _=>rfl⟩
 |r::A,i,m,xs,hr,H,hh,hl=>by
  rw [List.length_cons] at hl;obtain ⟨ok,hd,h64⟩:=hr r (by simp);have WD:=ok.w2;obtain ⟨p,hp⟩:∃p:Int,p=i+(r.w.length:Int):=⟨_,rfl⟩;obtain ⟨wl,hwl⟩:∃q:Int,q=(r.w.length:Int):=⟨_,rfl⟩;obtain ⟨c,hc⟩:∃q:Int,q=(pc (tp r):Int):=⟨_,rfl⟩;have h21:=kK (Ry r.m ok.Ek r.w.length WD);have ZI:=iS (RI (tp r) h64);have hio:=io0 (K:=100) (n:=2) (xs:=xs) (x:=jz r) (Oc hl) (by decide);have hkv:kv (jz r)=.tup [.int (-c),.str (bf r.m),.int wl]:=by rw [hc,hwl];rfl
  obtain ⟨u1,u2⟩:=By (jz r) hh;generalize tX aN xs (jz r)=ys at hio u1 u2;rw [hkv] at hio;rw [←hwl] at h21;rw [←hc] at ZI;rw [eK,if_neg (by rw [hd];decide),List.cons_append,List.nil_append,←hwl,←(show p=i+wl by exact Nk hp hwl)];have tK:bQ m (.many [60,63,13]) (.tup [.int p,.int wl,.str (bf r.m)])=some (ak (ak (ak m 60 (.fz (.int p))) 63 (.fz (.int wl))) 13 (.fz (.str (bf r.m)))):=Bv (H.no 60 (by decide)) (H.no 63 (by decide)) (H.no 13 (by decide)) (by decide) (by decide) (by decide);generalize hm2:ak (ak (ak m 60 (.fz (.int p))) 63 (.fz (.int wl))) 13 (.fz (.str (bf r.m)))=m2 at tK;have WH:ah m2 13=some (.fz (.str (bf r.m))):=DX hm2;have RO:ah m2 63=some (.fz (.int wl)):=Uq hm2;have g60:ah m2 60=some (.fz (.int p)):=gf2 hm2;have g0:ah m2 0=some (.own (xs.map kv)):=gt3 hm2 H.h0;have c21:ev (lv ai 100 4) m2 (.call 21 [(.var 13),(.var 63)])=some (.str (bf (tp r))):=by rw [call2 (aa WH) (aa RO)];exact h21
  have c20:ev (lv ai 100 4) m2 (.neg (.call 20 [(.call 21 [(.var 13),(.var 63)])]))=some (.int (-c)):=qO (by rw [iw c21];exact ZI);have et:ev (lv ai 100 4) m2 (.tup [(.neg (.call 20 [(.call 21 [(.var 13),(.var 63)])])),(.var 13),(.var 63)])=some (.tup [.int (-c),.str (bf r.m),.int wl]):=IG c20 (aa WH) (aa RO);have eio:ex (lv ai 100 4) 100 (.io 0 0 [(.tup [(.neg (.call 20 [(.call 21 [(.var 13),(.var 63)])])),(.var 13),(.var 63)])]) m2=some (.next,ak m2 0 (.own (ys.map kv))):=by rw [Up,bu g0,jR,et,jO];simp only [Option.bind_some,Option.map_some];rw [hio];rfl
  have hg:fK (lv ai 100 4) 100 (.many [60,63,13]) wj m (.tup [.int p,.int wl,.str (bf r.m)])=some (.next,ak m2 0 (.own (ys.map kv))):=by unfold fK;rw [tK,Option.bind_some,af eio,aK]
  have hyl:=u2.length_eq;rw [List.length_cons] at hyl;have Hp:Mp (ak m2 0 (.own (ys.map kv))) ys:=by
   refine ⟨au ..,?_⟩;intro x hx;simp only [List.mem_cons,List.not_mem_nil,or_false] at hx;rcases hx with rfl|rfl|rfl
   ·rw [cE,g60];simp
   ·rw [cE,RO];simp
   ·rw [cE,WH];simp
  obtain ⟨m',xs',t1,t2,t3,t4,t5,t6⟩:=pX A (i+(r.text.length:Int)) _ ys (fun x hx=>hr x (by simp [hx])) Hp u1 (by omega);refine ⟨m',xs',by rw [aL hg];exact t1,t2,?_,by rw [t4,List.length_cons];omega,t5,?_⟩
  ·intro x;rw [t3,u2.mem_iff];simp only [List.mem_cons];constructor
   ·rintro ((q|q)|⟨y,q1,q2⟩)
    ·exact .inr ⟨r,.inl rfl,q⟩
    ·exact .inl q
    ·exact .inr ⟨y,.inr q1,q2⟩
   ·rintro (q|⟨y,(rfl|q1),q2⟩)
    ·exact .inl (.inr q)
    ·exact .inl (.inl q2)
    ·exact .inr ⟨y,q1,q2⟩
  ·intro x hx;rw [t6 x hx];simp only [List.mem_cons,List.not_mem_nil,or_false,not_or] at hx;rw [aR _ _ hx.1,←hm2,aR _ _ hx.2.2.2,aR _ _ hx.2.2.1,aR _ _ hx.2.1]
theorem pY:∀{m:ao} {x:Nat} {v:V},ah m x=some (.fz v)→ah (cL m) x=some (.fz v)
 |[],x,v,h=>by cases h
 |(y,s)::r,x,v,h=>by
  unfold ah at h
  by_cases hb:Nat.beq y x
  ·rw [if_pos hb] at h;simp only [Option.some.injEq] at h;subst h;simp [cL,ah,hb]
  ·rw [if_neg hb] at h;have:=pY h;simp only [cL,List.map_cons,ah,hb] at this⊢;exact this
theorem I5 (S:iA rs) (hl:∀r∈rs,r.dead=false):
  ∃d Hr,(lv ai 100 5).f 23 [.str (aB rs)] []=some (.tup [.lst (Hr.map fun h=>.str (bf (tp h))),.lst (Hr.map fun h=>.str (bf h.m)),.str (aB (dc d rs))])∧MI rs d [] Hr:=by
 have h0:dc (fun _=>false) rs=rs:=by
  unfold dc;have:∀l:List Row,(∀r∈l,r.dead=false)→l.map (fun r=>{r with dead:=false})=l:=by
   intro l;induction l with
   |nil=>intro _;rfl
   |cons a l ih=> intro h;rw [List.map_cons,ih fun r hr=>h r (by simp [hr])];congr 1;have:=h a (by simp);cases a;simp only at this;rw [this]
  exact this rs hl
 rw [gS];show ∃d Hr,outF (exs (lv ai 100 4) 100 Wb [(66,.fz (.str (aB rs)))])=_∧_;unfold Wb
 have h19:=BC (rs:=rs) S.ok (Nat.lt_of_le_of_lt S.len (by decide)) (by
  have:=ni (d:=fun _=>false) S
  rw [h0] at this;exact Od this)
 have e1:ex (lv ai 100 4) 100 (.asg 59 (.var 66)) [(66,.fz (.str (aB rs)))]=some (.next,[(66,.fz (.str (aB rs))),(59,.fz (.str (aB rs)))]):=aD (aa rfl) (bh rfl);have e2:ex (lv ai 100 4) 100 (.bE 0 []) [(66,.fz (.str (aB rs))),(59,.fz (.str (aB rs)))]=some (.next,[(66,.fz (.str (aB rs))),(59,.fz (.str (aB rs))),(0,.own [])]):=by rw [IF,jO];rfl
 obtain ⟨m1,xs,p1,p2,p3,p4,p5,p6⟩:=pX rs 0 [(66,.fz (.str (aB rs))),(59,.fz (.str (aB rs))),(0,.own [])] [] (fun r hr=>⟨S.ok r hr,hl r hr,S.I4 r hr⟩) ⟨rfl,by simp [ah]⟩ yg (by
  have:=S.len
  simp only [List.length_nil];exact Oe this)
 have e3:ex (lv ai 100 4) 100 (.dW (.many [60,63,13]) (.call 19 [(.var 59)]) wj) [(66,.fz (.str (aB rs))),(59,.fz (.str (aB rs))),(0,.own [])]=some (.next,m1):=by
  have es:ev (lv ai 100 4) [(66,.fz (.str (aB rs))),(59,.fz (.str (aB rs))),(0,.own [])] (.call 19 [(.var 59)])=some (.lst (eK 0 rs)):=by rw [iw (aa rfl)];exact h19
  rw [iu (m':=[(66,.fz (.str (aB rs))),(59,.fz (.str (aB rs))),(0,.own [])]) (v:=.lst (eK 0 rs)) (by rw [lG,es]) rfl];exact p1
 have g67:ah m1 67=none:=p6 67 (by decide);have g68:ah m1 68=none:=p6 68 (by decide);have e4:ex (lv ai 100 4) 100 (.bE 67 []) m1=some (.next,ak m1 67 (.own [])):=by rw [IF,jO];simp only [Option.bind_some];rw [g67];rfl
 have e5:ex (lv ai 100 4) 100 (.bE 68 []) (ak m1 67 (.own []))=some (.next,ak (ak m1 67 (.own [])) 68 (.own [])):=by rw [IF,jO];simp only [Option.bind_some];rw [cE,g68];rfl
 generalize hm2:ak (ak m1 67 (.own [])) 68 (.own [])=m2 at e5;have kx:∀x,x≠68→x≠67→ah m2 x=ah m1 x:=fun x a b=>by rw [←hm2,aR _ _ a,aR _ _ b]
 have I0:MI rs (fun _=>false) xs []:=by
  refine ⟨p2,?_,?_,by simp,by simp,by simp,by simp,by simp⟩
  ·intro x hx;rcases (p3 x).mp hx with q|q
   ·simp at q
   ·exact q
  ·intro r hr;exact .inr ((p3 _).mpr (.inr ⟨r,hr,rfl⟩))
 have M0:Mv m2 rs (fun _=>false) xs []:=by
  refine ⟨by rw [kx 0 (by decide) (by decide)];exact p5.h0,?_,?_,?_,?_⟩
  ·rw [kx 59 (by decide) (by decide),p6 59 (by decide),h0];rfl
  ·rw [←hm2,cE,au];rfl
  ·rw [←hm2,au];rfl
  ·intro x hx ys;simp only [List.mem_cons,List.not_mem_nil,or_false] at hx;rcases hx with rfl|rfl|rfl|rfl|rfl|rfl|rfl|rfl
   ·rw [kx 13 (by decide) (by decide)];exact p5.no 13 (by decide) ys
   ·rw [kx 57 (by decide) (by decide),p6 57 (by decide)];simp [ah]
   ·rw [kx 60 (by decide) (by decide)];exact p5.no 60 (by decide) ys
   ·rw [kx 63 (by decide) (by decide)];exact p5.no 63 (by decide) ys
   ·rw [kx 69 (by decide) (by decide),p6 69 (by decide)];simp [ah]
   ·rw [kx 70 (by decide) (by decide),p6 70 (by decide)];simp [ah]
   ·rw [kx 71 (by decide) (by decide),p6 71 (by decide)];simp [ah]
   ·rw [kx 72 (by decide) (by decide),p6 72 (by decide)];simp [ah]
 have ZJ:=S.len;rw [List.length_nil] at p4;obtain ⟨m',d,Hr,t1,t2,t3⟩:=pW S 100 m2 _ xs [] I0 M0 (by rw [List.length_nil];exact Of p4 ZJ) (Og p4 ZJ);refine ⟨d,Hr,?_,t2⟩;have er:ex (lv ai 100 4) 100 (.ret (.tup [(.var 67),(.var 68),(.var 59)])) m'=some (.ret (.tup [.lst (Hr.map fun h=>.str (bf (tp h))),.lst (Hr.map fun h=>.str (bf h.m)),.str (aB (dc d rs))]),cL m'):=by
  have n67:jQ m' 67=none:=by unfold jQ;rw [t3.Ma]
  have hn:ev (lv ai 100 4) m' (.tup [(.var 67),(.var 68),(.var 59)])=none:=by rw [Wj,jR,qv2,n67];rfl
  rw [Br,lG,hn];simp only;rw [IG (aa (cS t3.Ma)) (aa (cS t3.RN)) (aa (pY t3.oY))];rfl
 rw [af e1,af e2,af e3,af e4,af e5,af (by rw [mV];exact t1),aY er];rfl
section
theorem yt (a b:Nat):Builtin.bitOr (a:Int) (b:Int)=((a ||| b:Nat):Int):=by have e1:decide (0≤Builtin.bitNot (a:Int))=false:=decide_eq_false (by unfold Builtin.bitNot;exact Hz);have e2:decide (0≤Builtin.bitNot (b:Int))=false:=decide_eq_false (by unfold Builtin.bitNot;exact Hz);unfold Builtin.bitOr Builtin.bitAnd;rw [e1,e2];simp only [Builtin.bitNot];have f1:(-(-(a:Int)-1)-1).toNat=a:=HA;have f2:(-(-(b:Int)-1)-1).toNat=b:=HA;rw [f1,f2];exact PC
theorem BJ (a b:Nat):Builtin.bitAnd (a:Int) (b:Int)=((a &&& b:Nat):Int):=by
 have e1:decide (0≤(a:Int))=true:=by simp
 have e2:decide (0≤(b:Int))=true:=by simp
 unfold Builtin.bitAnd;rw [e1,e2];simp
noncomputable def lr (n:Nat) (g:Nat→V):V:=.lst ((List.range n).map g)
noncomputable abbrev nI (k:Nat):V:=.int (k:Int)
theorem nj:cO (.jM 0 7)=some ((List.range 7).map nI):=rfl
theorem BK:cO (.jM 1 7)=some ([1,2,3,4,5,6].map nI):=rfl
theorem BL:cO (.jM 0 128)=some ((List.range 128).map nI):=by simp [cO,zC,ck]
theorem cD {n:Nat} {g:Nat→V} {k:Nat} (hi:i=(k:Int)) (hk:k<n) (hn:n<1000):jf (lr n g) (.int i)=some (g k):=by refine m8 ⟨by exact lD hi,by exact Pz hi hk hn⟩ ?_;have:i.toNat=k:=o4 hi;rw [this,List.getElem?_map,List.getElem?_range hk];rfl
section
variable {C:Calls} {K:Nat} {m:ao}
theorem nk {f:V→Option (Option V)} {p:Nat→Bool} {g:Nat→V}:∀{L:List Nat},(∀k∈L,f (nI k)=some (if p k then some (g k) else none))→bK f (L.map nI)=some ((L.filter p).map g)
 |[],_=>rfl
 |k::L,h=>by
  have ih:=nk (f:=f) (p:=p) (g:=g) fun x hx=>h x (List.mem_cons_of_mem _ hx);rw [List.map_cons,bK,h k (List.mem_cons_self ..),ih];cases hp:p k with
  |true=>rw [List.filter_cons_of_pos hp];rfl
  |false=>rw [List.filter_cons_of_neg (by rw [hp];decide)];rfl
theorem jW {c:PE} {p:Nat→Bool} {g:Nat→V} (hit:ev C m it=some v) (hx:cO v=some (L.map nI)) (hno:∀ys,ah m x≠some (.own ys))
  (hif:∀k∈L,∀i:Int,i=(k:Int)→tr C (ak m x (.fz (.int i))) c=some (p k)) (hel:∀k∈L,p k=true→∀i:Int,i=(k:Int)→ev C (ak m x (.fz (.int i))) elt=some (g k)):
  ev C m (.comp elt (.one x) it (some c))=some (.lst ((L.filter p).map g)):=by
 rw [zE,hit];simp only [Option.bind_some,hx];rw [nk (p:=p) (g:=g)]
 ·rfl
 ·intro k hk;obtain ⟨i,hi⟩:∃i:Int,i=(k:Int):=⟨_,rfl⟩;rw [show nI k=.int i by rw [hi]];simp only [bQ,cy hno,Option.bind_some,LW,IE,hif k hk i hi];cases hp:p k with
  |true=>rw [hel k hk hp i hi];rfl
  |false=>rfl
theorem fu {g:Nat→V} (hit:ev C m it=some v) (hx:cO v=some (L.map nI)) (hno:∀ys,ah m x≠some (.own ys))
  (hel:∀k∈L,∀i:Int,i=(k:Int)→ev C (ak m x (.fz (.int i))) elt=some (g k)):
  ev C m (.comp elt (.one x) it none)=some (.lst (L.map g)):=by
 rw [zE,hit];simp only [Option.bind_some,hx];rw [nk (p:=fun _=>true) (g:=g)]
 ·rw [List.filter_eq_self.mpr (by simp)];rfl
 ·intro k hk;obtain ⟨i,hi⟩:∃i:Int,i=(k:Int):=⟨_,rfl⟩;rw [show nI k=.int i by rw [hi]];simp only [bQ,cy hno,Option.bind_some,LW,IE,hel k hk i hi];rfl
end
theorem fZ:∀l:List Int,fX (l.map .int)=some l
 |[]=>rfl
 |a::l=>by rw [List.map_cons,fX,fZ l];rfl
theorem nq {α β:Type} (f:α→β) (n:Nat):∀(k:Nat) (l:List α),bA n k (l.map f)=(bA n k l).map f
 |0,l=>rfl
 |k+1,[]=>rfl
 |k+1,x::r=>by rw [List.map_cons,Bo,Bo,List.map_cons,←List.map_drop,nq f n k]
theorem I6 {n:Nat} (l:List Int):∃N:Nat→Int,(lv ai 100 (n+1)).f 15 [.lst (l.map .int)] []=some (lr 7 fun k=>.int (N k)):=by
 refine ⟨fun k=>([294,30,163,331,98,259,120][k]?.getD 0:Int)+(bA 7 (l.drop k).length (l.drop k)).sum,?_⟩;rw [gS];show outF (exs (lv ai 100 n) 100 V5 [(50,.fz (.lst (l.map .int)))])=_;unfold V5;generalize lv ai 100 n=C;have e1:ex C 100 (.asg 48 (.lst [(.cn (.int 294)),(.cn (.int 30)),(.cn (.int 163)),(.cn (.int 331)),(.cn (.int 98)),(.cn (.int 259)),(.cn (.int 120))])) [(50,.fz (.lst (l.map .int)))]=some (.next,[(50,.fz (.lst (l.map .int))),(48,.fz (.lst ([294,30,163,331,98,259,120].map .int)))]):= aD (v:=.lst ([294,30,163,331,98,259,120].map .int)) (by rw [qR];simp only [jO,jR,ay];rfl) (bh rfl);rw [af e1,aY (dw (v:=lr 7 fun k=>.int (([294,30,163,331,98,259,120][k]?.getD 0:Int)+(bA 7 (l.drop k).length (l.drop k)).sum)) ?_)]
 ·rfl
 refine fu (v:=.jM 0 7) (L:=List.range 7) (mX ay rfl) nj (bh rfl) ?_;intro k hk i hi;have pg:k<7:=List.mem_range.mp hk;have RP:ev C (ak [(50,.fz (.lst (l.map .int))),(48,.fz (.lst ([294,30,163,331,98,259,120].map .int)))] 49 (.fz (.int i))) (.var 49)=some (.int i):=aa (au ..);have hix:bT i:=⟨by exact lD hi,by exact PJ hi pg⟩;have hin:i.toNat=k:=o4 hi;refine aF (x:=.int ([294,30,163,331,98,259,120][k]?.getD 0)) (y:=.int (bA 7 (l.drop k).length (l.drop k)).sum) (aZ (aa rfl) RP (m8 hix ?_)) (mX (x:=.lst ((bA 7 (l.drop k).length (l.drop k)).map .int)) ?_ ?_) rfl
 ·rw [hin,List.getElem?_map];have:([294,30,163,331,98,259,120]:List Int)[k]?=some (([294,30,163,331,98,259,120]:List Int)[k]?.getD 0):=by
   rw [List.getElem?_eq_getElem (by simpa using pg)];rfl
  rw [this];rfl
 ·refine tV (aa (v:=.lst (l.map .int)) rfl) (iy RP) rfl (iy ay) (bb (cA hix) ?_);show some (V.lst (stride 7 _))=_;rw [hin,←List.map_drop];unfold stride;rw [List.length_map,nq]
 ·show (fX _).bind _=_;rw [fZ];rfl
theorem I7 {n:Nat} (N:Nat→Int):∃A:Nat→Nat,A 0=0∧(∀k,0<k→A k<k)∧(lv ai 100 (n+1)).f 16 [lr 7 fun k=>.int (N k)] []=some (lr 7 fun k=>.int (A k:Int)):=by
 refine ⟨fun k=>if k=0 then 0 else ((N k).fmod k).toNat,rfl,?_,?_⟩
 ·intro k hk;have h1:=Int.fmod_nonneg_of_pos (N k) (show (0:Int)<k by exact HB hk);have h2:=Int.fmod_lt_of_pos (N k) (show (0:Int)<k by exact HB hk);show (if k=0 then 0 else ((N k).fmod k).toNat)<k;rw [if_neg (by exact PA h1 h2)];exact PB h1 h2
 ·rw [gS];show outF (exs (lv ai 100 n) 100 V6 [(51,.fz (lr 7 fun k=>.int (N k)))])=_;unfold V6;generalize lv ai 100 n=C;have hc:ev C [(51,.fz (lr 7 fun k=>.int (N k)))] (.comp (.bin .mod (.idx (.var 51) (.var 49)) (.var 49)) (.one 49) (.bi .range [(.cn (.int 1)),(.cn (.int 7))]) none)=some (.lst ([1,2,3,4,5,6].map fun k=>.int (((if k=0 then 0 else ((N k).fmod k).toNat:Nat)):Int))):=by
   refine fu (v:=.jM 1 7) (L:=[1,2,3,4,5,6]) (Ws ay ay rfl) BK (bh rfl) ?_;intro k hk i hi;have pg:0<k∧k<7:=(by decide:∀k∈[1,2,3,4,5,6],0<k∧k<7) k hk;have RP:ev C (ak [(51,.fz (lr 7 fun k=>.int (N k)))] 49 (.fz (.int i))) (.var 49)=some (.int i):=aa (au ..);have h1:=Int.fmod_nonneg_of_pos (N k) (show (0:Int)<k by exact PD pg);refine aF (aZ (aa rfl) RP (cD hi pg.2 (by decide))) RP ?_;refine (if_pos (by simp;exact PF hi pg)).trans ?_;rw [hi,if_neg (by exact PG pg)];congr 2;exact PI h1
  have e:ev C [(51,.fz (lr 7 fun k=>.int (N k)))] (.bin .add (.lst [(.cn (.int 0))]) (.comp (.bin .mod (.idx (.var 51) (.var 49)) (.var 49)) (.one 49) (.bi .range [(.cn (.int 1)),(.cn (.int 7))]) none))=some (lr 7 fun k=>.int (((if k=0 then 0 else ((N k).fmod k).toNat:Nat)):Int)):= aF (x:=.lst [.int 0]) (by rw [qR];simp only [jO,jR,ay];rfl) hc rfl;rw [aY (dw e)];rfl
end
section
noncomputable def grow (A:Nat→Nat):Nat→List Nat
 |0=>[0]
 |n+1=>grow A n++[(grow A n)[A (n+1)]?.getD 0+2^n]
theorem iB (A:Nat→Nat):∀n,(grow A n).length=n+1
 |0=>rfl
 |n+1=>by rw [grow,List.length_append,iB A n];rfl
noncomputable def mk (A:Nat→Nat) (k:Nat):Nat:=(grow A k)[k]?.getD 0
theorem yu (A:Nat→Nat):∀n,grow A n=(List.range (n+1)).map (mk A)
 |0=>rfl
 |n+1=>by
  rw [List.range_succ,List.map_append,←yu A n,List.map_singleton];have:mk A (n+1)=(grow A n)[A (n+1)]?.getD 0+2^n:=by unfold mk;rw [grow,List.getElem?_append_right (by rw [iB];exact HD),iB,Nat.sub_self];rfl
  rw [this,grow]
structure Tree (A M:Nat→Nat):Prop where
 a0:A 0=0
 a1:∀k,0<k→A k<k
 m0:M 0=0
 m1:∀k,M (k+1)=M (A (k+1))+2^k
theorem Er (h0:A 0=0) (h1:∀k,0<k→A k<k):Tree A (mk A) where
 a0:=h0
 a1:=h1
 m0:=rfl
 m1 k:=by
  have:mk A (k+1)=(grow A k)[A (k+1)]?.getD 0+2^k:=by unfold mk;rw [grow,List.getElem?_append_right (by rw [iB];exact HD),iB,Nat.sub_self];rfl
  have h2:=h1 (k+1) (by exact tR);rw [this,yu,List.getElem?_map,List.getElem?_range (by omega)];rfl
section
variable {A M:Nat→Nat} (T:Tree A M)
include T
theorem Tree.lt:∀k,M k<2^k:=by
 intro k;induction k using Nat.strongRecOn with
 |_ k ih=>
  cases k with
  |zero=>rw [T.m0];decide
  |succ k=> have h2:=T.a1 (k+1) (by exact tR);have h3:=ih (A (k+1)) h2;have h4:2^A (k+1)≤2^k:=Nat.pow_le_pow_right (by decide) (xW h2);rw [T.m1,Nat.pow_succ];exact P7 h3 h4
theorem Tree.ge (k:Nat):2^k≤M (k+1):=by rw [T.m1];exact P5
theorem Tree.l8 {k:Nat} (h:k<7):M k<64:=by
 have h1:=T.lt k;have h2:2^k≤2^6:=Nat.pow_le_pow_right (by decide) (Bd h);have:(2:Nat)^6=64:=by decide
 omega
theorem Tree.rm (k:Nat):M (A (k+1))<2^k:=by have h2:=T.a1 (k+1) (by exact tR);have h3:=T.lt (A (k+1));have h4:2^A (k+1)≤2^k:=Nat.pow_le_pow_right (by decide) (xW h2);exact P6 h3 h4
end
theorem bits_add:∀n,n<6→∀m,m<2^n→aW (m+2^n)=aW m++[n+1]∧((0::aW m).map Int.ofNat).contains (Int.ofNat (n+1))=false∧(aW m).length<6∧iz (aW m++[n+1])=iz (aW m)++[47]++[97,98,99,100,101,102].take (n+1)∧(iz (aW m)).length<100:=by decide+kernel
structure WI (m:ao) (A M:Nat→Nat) (n:Nat):Prop where
 UC:ah m 52=some (.own ((List.range (n+1)).map fun k=>.str (iz (aW (M k)))))
 WJ:ah m 53=some (.fz (lr 7 fun k=>.int (A k:Int)))
 WK:∀ys,ah m 49≠some (.own ys)
noncomputable abbrev BN:List PS:=[.app 52 (.bin .add (.bin .add (.aH 52 (.idx (.var 53) (.var 49))) (.cn (.str [47]))) (.slc (.cn (.str [97,98,99,100,101,102])) none (some (.var 49)) none))]
theorem iU {C:Calls} (T:Tree A M) {n:Nat} (hn:n<6) (H:WI m A M n):∃m',fK C 100 (.one 49) BN m (nI (n+1))=some (.next,m')∧WI m' A M (n+1):=by
 obtain ⟨i,hi⟩:∃i:Int,i=((n+1:Nat):Int):=⟨_,rfl⟩;obtain ⟨j,hj⟩:∃j:Int,j=(A (n+1):Int):=⟨_,rfl⟩;have hA:=T.a1 (n+1) (by exact tR);obtain ⟨b1,b2,b3,b4,b5⟩:=bits_add n hn (M (A (n+1))) (T.rm n);have tK:bQ m (.one 49) (nI (n+1))=some (ak m 49 (.fz (.int i))):=by rw [show nI (n+1)=.int i by rw [hi]];exact cy H.WK
 generalize hm1:ak m 49 (.fz (.int i))=m1 at tK;have yv:ah m1 49=some (.fz (.int i)):=DX hm1;have ZK:ah m1 52=some (.own ((List.range (n+1)).map fun k=>.str (iz (aW (M k))))):=zF hm1 H.UC;have RQ:ah m1 53=some (.fz (lr 7 fun k=>.int (A k:Int))):=zF hm1 H.WJ;have e1:ev C m1 (.idx (.var 53) (.var 49))=some (.int j):=by rw [aZ (aa RQ) (aa yv) (cD hi (by exact HE hn) (by decide)),hj]
 have e2:ev C m1 (.aH 52 (.idx (.var 53) (.var 49)))=some (.str (iz (aW (M (A (n+1)))))):=eW ZK e1 (cD (n:=n+1) (g:=fun k=>.str (iz (aW (M k)))) hj hA (xY hn));have e3:ev C m1 (.slc (.cn (.str [97,98,99,100,101,102])) none (some (.var 49)) none)=some (.str ([97,98,99,100,101,102].take (n+1))):=by have:i.toNat=n+1:=Qa hi;exact tV ay rfl (iy (aa yv)) rfl ((m9 rfl (cA ⟨by exact P8 hi,by exact P9 hn hi⟩)).trans (by rw [this];rfl))
 have e4:=add_str (add_str e2 (ay (v:=.str [47])) (by rw [List.length_singleton];exact Qc b5)) e3 (by simp only [List.length_append,List.length_singleton,List.length_take,List.length_cons,List.length_nil];exact Qd b5);have ea:=kJ (K:=100) ZK e4 (by rw [List.length_map,List.length_range];exact xY hn);refine ⟨_,by unfold fK;rw [tK,Option.bind_some,af ea,aK],?_,?_,?_⟩
 ·rw [au];exact congrArg (fun z=>some (Sl.own z)) (by rw [List.range_succ (n:=n+1),List.map_append,List.map_singleton,T.m1,b1,b4])
 ·rw [cE];exact RQ
 ·rw [cE,yv];simp
theorem I8 {n:Nat} (T:Tree A M):(lv ai 100 (n+1)).f 17 [lr 7 fun k=>.int (A k:Int)] []=some (lr 7 fun k=>.str (bf (M k))):=by
 rw [gS];have hs:∀a,o9 ai (lv ai 100 n) 100 17 [a] []=outF (exs (lv ai 100 n) 100 V7 [(53,.fz a)]):=fun _=>rfl;rw [hs];unfold V7;generalize lv ai 100 n=C;have e1:ex C 100 (.bE 52 [(.cn (.str []))]) [(53,.fz (lr 7 fun k=>.int (A k:Int)))]=some (.next,[(53,.fz (lr 7 fun k=>.int (A k:Int))),(52,.own [.str []])]):=by rw [IF];simp only [jO,jR,ay];rfl
 have H0:WI [(53,.fz (lr 7 fun k=>.int (A k:Int))),(52,.own [.str []])] A M 0:=by refine ⟨?_,rfl,by simp [ah]⟩;show _=some (Sl.own [V.str (iz (aW (M 0)))]);rw [T.m0];rfl
 obtain ⟨m1,s1,H1⟩:=iU (C:=C) T (by decide) H0;obtain ⟨m2,s2,H2⟩:=iU (C:=C) T (by decide) H1;obtain ⟨m3,s3,H3⟩:=iU (C:=C) T (by decide) H2;obtain ⟨m4,s4,H4⟩:=iU (C:=C) T (by decide) H3;obtain ⟨m5,s5,H5⟩:=iU (C:=C) T (by decide) H4;obtain ⟨m6,s6,H6⟩:=iU (C:=C) T (by decide) H5;have e2:ex C 100 (.dW (.one 49) (.bi .range [(.cn (.int 1)),(.cn (.int 7))]) BN) [(53,.fz (lr 7 fun k=>.int (A k:Int))),(52,.own [.str []])]=some (.next,m6):=by rw [iu (v:=.jM 1 7) (m':=[(53,.fz (lr 7 fun k=>.int (A k:Int))),(52,.own [.str []])]) (xs:=[1,2,3,4,5,6].map nI) (by rw [lG,Ws ay ay (y:=.jM 1 7) rfl]) BK];show forL _ [nI (0+1),nI (1+1),nI (2+1),nI (3+1),nI (4+1),nI (5+1)] _=_;rw [aL s1,aL s2,aL s3,aL s4,aL s5,aL s6,jT]
 have hp:∀k,bf (M (k+1))=iz (aW (M (k+1))):=by intro k;have:=T.ge k;have h2:=Nat.pos_of_ne_zero (show 2^k≠0 from Nat.ne_of_gt (Nat.pow_pos (by decide)));unfold bf;rw [if_neg (by exact Hu this h2)]
 have e3:ev C m6 (.bin .add (.lst [(.cn (.str [47]))]) (.gm 52 (.cn (.int 1))))=some (lr 7 fun k=>.str (bf (M k))):=by
  refine aF (x:=.lst [.str [47]]) (y:=.lst ([1,2,3,4,5,6].map fun k=>.str (iz (aW (M k))))) (by rw [qR];simp only [jO,jR,ay];rfl) ?_ ?_
  ·rw [Wl,bu H6.UC,ay];rfl
  ·show some (V.lst [.str [47],.str (iz (aW (M (0+1)))),.str (iz (aW (M (1+1)))),.str (iz (aW (M (2+1)))),.str (iz (aW (M (3+1)))),.str (iz (aW (M (4+1)))),.str (iz (aW (M (5+1))))])=some (V.lst [.str (bf (M 0)),.str (bf (M (0+1))),.str (bf (M (1+1))),.str (bf (M (2+1))),.str (bf (M (3+1))),.str (bf (M (4+1))),.str (bf (M (5+1)))]);rw [hp,hp,hp,hp,hp,hp,T.m0];rfl
 rw [af e1,af e2,aY (dw e3)];rfl
noncomputable def wy (m:Nat):V:=.cI ((0::aW m).map Int.ofNat)
structure WL (m:ao) (A M:Nat→Nat) (n:Nat):Prop where
 UD:ah m 73=some (.own ((List.range (n+1)).map fun k=>wy (M k)))
 WJ:ah m 53=some (.fz (lr 7 fun k=>.int (A k:Int)))
 WK:∀ys,ah m 49≠some (.own ys)
noncomputable abbrev BO:List PS:=[.app 73 (.bin .bor (.aH 73 (.idx (.var 53) (.var 49))) (.fk (.var 49)))]
theorem iV {C:Calls} (T:Tree A M) {n:Nat} (hn:n<6) (H:WL m A M n):∃m',fK C 100 (.one 49) BO m (nI (n+1))=some (.next,m')∧WL m' A M (n+1):=by
 obtain ⟨i,hi⟩:∃i:Int,i=((n+1:Nat):Int):=⟨_,rfl⟩;obtain ⟨j,hj⟩:∃j:Int,j=(A (n+1):Int):=⟨_,rfl⟩;have hA:=T.a1 (n+1) (by exact tR);obtain ⟨b1,b2,b3,b4,b5⟩:=bits_add n hn (M (A (n+1))) (T.rm n);have tK:bQ m (.one 49) (nI (n+1))=some (ak m 49 (.fz (.int i))):=by rw [show nI (n+1)=.int i by rw [hi]];exact cy H.WK
 generalize hm1:ak m 49 (.fz (.int i))=m1 at tK;have yv:ah m1 49=some (.fz (.int i)):=DX hm1;have RS:ah m1 73=some (.own ((List.range (n+1)).map fun k=>wy (M k))):=zF hm1 H.UD;have RQ:ah m1 53=some (.fz (lr 7 fun k=>.int (A k:Int))):=zF hm1 H.WJ;have e1:ev C m1 (.idx (.var 53) (.var 49))=some (.int j):=by rw [aZ (aa RQ) (aa yv) (cD hi (by exact HE hn) (by decide)),hj]
 have e2:ev C m1 (.aH 73 (.idx (.var 53) (.var 49)))=some (wy (M (A (n+1)))):=eW RS e1 (cD (n:=n+1) (g:=fun k=>wy (M k)) hj hA (xY hn));have e3:ev C m1 (.fk (.var 49))=some (.cI [i]):=bb (aa yv) (if_pos (by simp;exact Qe hn hi));have hin:i=Int.ofNat (n+1):=hi
 have e4:ev C m1 (.bin .bor (.aH 73 (.idx (.var 53) (.var 49))) (.fk (.var 49)))=some (wy (M (n+1))):=aF e2 e3 (by
  rw [T.m1];unfold wy;rw [b1,hin];simp only [List.map_cons] at b2⊢;refine (if_pos (by simp;omega)).trans ?_;rw [List.filter_cons_of_pos (by rw [b2];rfl)]
  simp)
 have ea:=kJ (K:=100) RS e4 (by rw [List.length_map,List.length_range];exact xY hn);refine ⟨_,by unfold fK;rw [tK,Option.bind_some,af ea,aK],?_,?_,?_⟩
 ·rw [au];exact congrArg (fun z=>some (Sl.own z)) (by rw [List.range_succ (n:=n+1),List.map_append];rfl)
 ·rw [cE];exact RQ
 ·rw [cE,yv];simp
theorem I9 {n:Nat} (T:Tree A M):(lv ai 100 (n+1)).f 24 [lr 7 fun k=>.int (A k:Int)] []=some (lr 7 fun k=>wy (M k)):=by
 rw [gS];have hs:∀a,o9 ai (lv ai 100 n) 100 24 [a] []=outF (exs (lv ai 100 n) 100 Wc [(53,.fz a)]):=fun _=>rfl;rw [hs];unfold Wc;generalize lv ai 100 n=C;have e1:ex C 100 (.bE 73 [(.fk (.cn (.int 0)))]) [(53,.fz (lr 7 fun k=>.int (A k:Int)))]=some (.next,[(53,.fz (lr 7 fun k=>.int (A k:Int))),(73,.own [.cI [0]])]):=by
  have:ev C [(53,.fz (lr 7 fun k=>.int (A k:Int)))] (.fk (.cn (.int 0)))=some (.cI [0]):=by rw [Wk,ay];rfl
  rw [IF,jR,this,jO];rfl
 have H0:WL [(53,.fz (lr 7 fun k=>.int (A k:Int))),(73,.own [.cI [0]])] A M 0:=by refine ⟨?_,rfl,by simp [ah]⟩;show _=some (Sl.own [wy (M 0)]);rw [T.m0];rfl
 obtain ⟨m1,s1,H1⟩:=iV (C:=C) T (by decide) H0;obtain ⟨m2,s2,H2⟩:=iV (C:=C) T (by decide) H1;obtain ⟨m3,s3,H3⟩:=iV (C:=C) T (by decide) H2;obtain ⟨m4,s4,H4⟩:=iV (C:=C) T (by decide) H3;obtain ⟨m5,s5,H5⟩:=iV (C:=C) T (by decide) H4;obtain ⟨m6,s6,H6⟩:=iV (C:=C) T (by decide) H5;have e2:ex C 100 (.dW (.one 49) (.bi .range [(.cn (.int 1)),(.cn (.int 7))]) BO) [(53,.fz (lr 7 fun k=>.int (A k:Int))),(73,.own [.cI [0]])]=some (.next,m6):=by rw [iu (v:=.jM 1 7) (m':=[(53,.fz (lr 7 fun k=>.int (A k:Int))),(73,.own [.cI [0]])]) (xs:=[1,2,3,4,5,6].map nI) (by rw [lG,Ws ay ay (y:=.jM 1 7) rfl]) BK];show forL _ [nI (0+1),nI (1+1),nI (2+1),nI (3+1),nI (4+1),nI (5+1)] _=_;rw [aL s1,aL s2,aL s3,aL s4,aL s5,aL s6,jT]
 rw [af e1,af e2,aY (q9 H6.UD)];rfl
end
section
noncomputable def sub {α β:Type} (op:β→α→β) (acc:List β) (L:List α):List β:=L.foldl (fun acc a=>acc++acc.map fun b=>op b a) acc
section
variable {C:Calls} {K:Nat}
theorem kP {α:Type} {e:α→V} {f:V→Option (Option V)} {g:α→V}:∀{L:List α},(∀k∈L,f (e k)=some (some (g k)))→bK f (L.map e)=some (L.map g)
 |[],_=>rfl
 |k::L,h=>by rw [List.map_cons,bK,h k (List.mem_cons_self ..),kP (f:=f) (g:=g) fun x hx=>h x (List.mem_cons_of_mem _ hx)];rfl
theorem BP {e:α→V} {L:List α} {g:α→V} (hit:ev C m it=some v) (hx:cO v=some (L.map e)) (hno:∀ys,ah m x≠some (.own ys))
  (hel:∀k∈L,ev C (ak m x (.fz (e k))) elt=some (g k)):ev C m (.comp elt (.one x) it none)=some (.lst (L.map g)):=by
 rw [zE,hit];simp only [Option.bind_some,hx];rw [kP (g:=g)]
 ·rfl
 ·intro k hk;simp only [bQ,cy hno,Option.bind_some,LW,IE,hel k hk];rfl
theorem jX {α β:Type} {eA:α→V} {eB:β→V} {op:β→α→β} {x y z:Nat} {elt:PE} (hxy:x≠y) (hxz:x≠z) (hyz:y≠z)
  (hel:∀m a b,ah m x=some (.fz (eA a))→ah m z=some (.fz (eB b))→ev C m elt=some (eB (op b a))):
  ∀(L:List α) (acc:List β) (m:ao),ah m y=some (.fz (.lst (acc.map eB)))→(∀ys,ah m x≠some (.own ys))→(∀ys,ah m z≠some (.own ys))→acc.length*2^L.length≤1000→
   ∃m',forL (fK C K (.one x) [.asg y (.bin .add (.var y) (.comp elt (.one z) (.var y) none))]) (L.map eA) m=some (.next,m')∧ah m' y=some (.fz (.lst ((sub op acc L).map eB)))
 |[],acc,m,hy,hx,hz,hl=>⟨m,rfl,hy⟩
 |a::L,acc,m,hy,hx,hz,hl=>by
  have tK:bQ m (.one x) (eA a)=some (ak m x (.fz (eA a))):=by simp only [bQ];exact cy hx
  generalize hm1:ak m x (.fz (eA a))=m1 at tK;have gx:ah m1 x=some (.fz (eA a)):=by rw [←hm1,au]
  have gy:ah m1 y=some (.fz (.lst (acc.map eB))):=by rw [←hm1,aR _ _ (Ne.symm hxy)];exact hy
  have gz:∀ys,ah m1 z≠some (.own ys):=by rw [←hm1,aR _ _ (Ne.symm hxz)];exact hz
  have ec:ev C m1 (.comp elt (.one z) (.var y) none)=some (.lst (acc.map fun b=>eB (op b a))):= BP (aa gy) rfl gz fun b _=>hel _ a b (by rw [aR _ _ hxz];exact gx) (au ..);have hp:(2:Nat)^(a::L).length=2*2^L.length:=by rw [List.length_cons,Nat.pow_succ,Nat.mul_comm]
  have hpos:0<(2:Nat)^L.length:=Nat.pow_pos (by decide);rw [hp] at hl;have h2:acc.length*(2*2^L.length)=(acc.length+acc.length)*2^L.length:=by rw [←Nat.mul_assoc,Nat.mul_two]
  have h3:(acc.length+acc.length)*1≤(acc.length+acc.length)*2^L.length:=Nat.mul_le_mul_left _ hpos
  have eb:ev C m1 (.bin .add (.var y) (.comp elt (.one z) (.var y) none))=some (.lst ((acc++acc.map fun b=>op b a).map eB)):=aF (aa gy) ec (by
   refine (if_pos (by rw [ck,List.length_map,List.length_map];exact Nat.ble_eq.mpr (VG hl h2 h3))).trans ?_;rw [List.map_append,List.map_map]
   rfl)
  have ea:ex C K (.asg y (.bin .add (.var y) (.comp elt (.one z) (.var y) none))) m1=some (.next,ak m1 y (.fz (.lst ((acc++acc.map fun b=>op b a).map eB)))):=aD eb (kI gy);have hg:fK C K (.one x) [.asg y (.bin .add (.var y) (.comp elt (.one z) (.var y) none))] m (eA a)=some (.next,ak m1 y (.fz (.lst ((acc++acc.map fun b=>op b a).map eB)))):=by unfold fK;rw [tK,Option.bind_some,af ea,aK]
  obtain ⟨m',t1,t2⟩:=jX hxy hxz hyz hel L (acc++acc.map fun b=>op b a) _ (au ..) (by rw [aR _ _ hxy,gx];simp) (by rw [aR _ _ (Ne.symm hyz)];exact gz) (by rw [List.length_append,List.length_map];exact VH hl h2);exact ⟨m',by rw [List.map_cons,aL hg];exact t1,t2⟩
end
noncomputable def Es (b a:Nat):Nat:=b ||| a
theorem Ja {n:Nat} {rows:List Nat} (hl:rows.length≤7):(lv ai 100 (n+1)).f 25 [.lst (rows.map nI)] []=some (.lst ((sub Es [0] rows).map nI)):=by
 rw [gS];have hs:∀a,o9 ai (lv ai 100 n) 100 25 [a] []=outF (exs (lv ai 100 n) 100 Wd [(54,.fz a)]):=fun _=>rfl;rw [hs];unfold Wd;generalize lv ai 100 n=C;have e1:ex C 100 (.asg 74 (.lst [(.cn (.int 0))])) [(54,.fz (.lst (rows.map nI)))]=some (.next,[(54,.fz (.lst (rows.map nI))),(74,.fz (.lst ([0].map nI)))]):=aD (v:=.lst ([0].map nI)) (by rw [qR];simp only [jO,jR,ay];rfl) (bh rfl);have hp:(2:Nat)^rows.length≤2^7:=Nat.pow_le_pow_right (by decide) hl
 obtain ⟨m',t1,t2⟩:=jX (C:=C) (K:=100) (eA:=nI) (eB:=nI) (op:=Es) (x:=69) (y:=74) (z:=75) (elt:=.bin .bor (.var 75) (.var 69)) (by decide) (by decide) (by decide) (by
  intro m a b h1 h2;refine aF (aa h2) (aa h1) ?_;show some (V.int (Builtin.bitOr (b:Int) (a:Int)))=_;rw [yt];rfl) rows [0] [(54,.fz (.lst (rows.map nI))),(74,.fz (.lst ([0].map nI)))] rfl (bh rfl) (bh rfl) (by
  rw [List.length_singleton];have:(2:Nat)^7=128:=by decide
  omega)
 have e2:ex C 100 (.dW (.one 69) (.var 54) [.asg 74 (.bin .add (.var 74) (.comp (.bin .bor (.var 75) (.var 69)) (.one 75) (.var 74) none))]) [(54,.fz (.lst (rows.map nI))),(74,.fz (.lst ([0].map nI)))]=some (.next,m'):=by rw [iu (v:=.lst (rows.map nI)) (m':=[(54,.fz (.lst (rows.map nI))),(74,.fz (.lst ([0].map nI)))]) (xs:=rows.map nI) (by rw [lG,aa rfl]) rfl];exact t1
 rw [af e1,af e2,aY (dw (aa t2))];rfl
noncomputable def BQ:Option Nat→Nat→Option Nat
 |none,_=>none
 |some b,a=>if b &&& a=0 then some (b ||| a) else none
noncomputable def oI:Option Nat→V
 |none=>.int (-1)
 |some a=>.int (a:Int)
theorem Jb {n:Nat} {rows:List Nat} (hl:rows.length≤7):(lv ai 100 (n+1)).f 26 [.lst (rows.map nI)] []=some (.lst ((sub BQ [some 0] rows).map oI)):=by
 rw [gS];have hs:∀a,o9 ai (lv ai 100 n) 100 26 [a] []=outF (exs (lv ai 100 n) 100 We [(54,.fz a)]):=fun _=>rfl;rw [hs];unfold We;generalize lv ai 100 n=C;have e1:ex C 100 (.asg 74 (.lst [(.cn (.int 0))])) [(54,.fz (.lst (rows.map nI)))]=some (.next,[(54,.fz (.lst (rows.map nI))),(74,.fz (.lst ([some 0].map oI)))]):=aD (v:=.lst ([some 0].map oI)) (by rw [qR];simp only [jO,jR,ay];rfl) (bh rfl);have hp:(2:Nat)^rows.length≤2^7:=Nat.pow_le_pow_right (by decide) hl
 obtain ⟨m',t1,t2⟩:=jX (C:=C) (K:=100) (eA:=nI) (eB:=oI) (op:=BQ) (x:=69) (y:=74) (z:=75) (elt:=.ite (.or (.cmp .lt (.var 75) (.cn (.int 0))) (.bin .band (.var 75) (.var 69))) (.neg (.cn (.int 1))) (.bin .bor (.var 75) (.var 69))) (by decide) (by decide) (by decide) (by
  intro m a b h1 h2;have hneg:ev C m (.neg (.cn (.int 1)))=some (.int (-1)):=qO ay;cases b with
  |none=>
   have t1:tr C m (.cmp .lt (.var 75) (.cn (.int 0)))=some true:=aU (aa h2) ay rfl;have t2:tr C m (.or (.cmp .lt (.var 75) (.cn (.int 0))) (.bin .band (.var 75) (.var 69)))=some true:=by rw [Zg,t1];rfl
   rw [Wm,t2];exact hneg
  |some b=>
   have t1:tr C m (.cmp .lt (.var 75) (.cn (.int 0)))=some false:=aU (aa h2) ay (by
    show some (decide ((b:Int)<0))=_
    rw [decide_eq_false (by exact tO)])
   have t3:tr C m (.bin .band (.var 75) (.var 69))=some (decide (b &&& a≠0)):=by rw [qt8,aa h2,aa h1];show jy (.int (Builtin.bitAnd (b:Int) (a:Int)))=_;rw [BJ];show some (decide (((b &&& a:Nat):Int)≠0))=_;congr 1;rw [decide_eq_decide];exact VI
   have t2:tr C m (.or (.cmp .lt (.var 75) (.cn (.int 0))) (.bin .band (.var 75) (.var 69)))=some (decide (b &&& a≠0)):=by rw [Zg,t1];exact t3
   have hor:ev C m (.bin .bor (.var 75) (.var 69))=some (nI (b ||| a)):=aF (aa h2) (aa h1) (by
    show some (V.int (Builtin.bitOr (b:Int) (a:Int)))=_
    rw [yt])
   rw [Wm,t2];simp only [Option.bind_some];have ea:BQ (some b) a=if b &&& a=0 then some (b ||| a) else none:=rfl
   rw [ea]
   by_cases h0:b &&& a=0
   ·rw [if_neg (by simp [h0]),if_pos h0,hor];rfl
   ·rw [if_pos (by simp [h0]),if_neg h0,hneg];rfl) rows [some 0] [(54,.fz (.lst (rows.map nI))),(74,.fz (.lst ([some 0].map oI)))] rfl (bh rfl) (bh rfl) (by
  rw [List.length_singleton];have:(2:Nat)^7=128:=by decide
  omega)
 have e2:ex C 100 (.dW (.one 69) (.var 54) [.asg 74 (.bin .add (.var 74) (.comp (.ite (.or (.cmp .lt (.var 75) (.cn (.int 0))) (.bin .band (.var 75) (.var 69))) (.neg (.cn (.int 1))) (.bin .bor (.var 75) (.var 69))) (.one 75) (.var 74) none))]) [(54,.fz (.lst (rows.map nI))),(74,.fz (.lst ([some 0].map oI)))]=some (.next,m'):=by rw [iu (v:=.lst (rows.map nI)) (m':=[(54,.fz (.lst (rows.map nI))),(74,.fz (.lst ([some 0].map oI)))]) (xs:=rows.map nI) (by rw [lG,aa rfl]) rfl];exact t1
 rw [af e1,af e2,aY (dw (aa t2))];rfl
noncomputable def Et (b:Nat) (_:Nat):Nat:=b+1
theorem Jc {n:Nat}:(lv ai 100 (n+1)).f 27 [] []=some (.lst ((sub Et [0] (List.range 7)).map nI)):=by
 rw [gS];have hs:o9 ai (lv ai 100 n) 100 27 [] []=outF (exs (lv ai 100 n) 100 Wf []):=rfl;rw [hs];unfold Wf;generalize lv ai 100 n=C;have e1:ex C 100 (.asg 76 (.lst [(.cn (.int 0))])) []=some (.next,[(76,.fz (.lst ([0].map nI)))]):=aD (v:=.lst ([0].map nI)) (by rw [qR];simp only [jO,jR,ay];rfl) (bh rfl)
 obtain ⟨m',t1,t2⟩:=jX (C:=C) (K:=100) (eA:=nI) (eB:=nI) (op:=Et) (x:=49) (y:=76) (z:=77) (elt:=.bin .add (.var 77) (.cn (.int 1))) (by decide) (by decide) (by decide) (by
  intro m a b h1 h2
  exact aF (aa h2) ay rfl) (List.range 7) [0] [(76,.fz (.lst ([0].map nI)))] rfl (bh rfl) (bh rfl) (by decide)
 have e2:ex C 100 (.dW (.one 49) (.bi .range [(.cn (.int 7))]) [.asg 76 (.bin .add (.var 76) (.comp (.bin .add (.var 77) (.cn (.int 1))) (.one 77) (.var 76) none))]) [(76,.fz (.lst ([0].map nI)))]=some (.next,m'):=by rw [iu (v:=.jM 0 7) (m':=[(76,.fz (.lst ([0].map nI)))]) (xs:=(List.range 7).map nI) (by rw [lG,mX ay (y:=.jM 0 7) rfl]) nj];exact t1
 rw [af e1,af e2,aY (dw (aa t2))];rfl
noncomputable def iC (p:Nat→Bool):Nat:=(((List.range 7).filter p).map fun k=>2^k).sum
theorem wk (p:Nat→Bool):v7 .sum [.lst (((List.range 7).filter p).map fun k=>nI (2^k))]=some (nI (iC p)):=by
 have e:((List.range 7).filter p).map (fun k=>nI (2^k))=(((List.range 7).filter p).map fun k=>((2^k:Nat):Int)).map .int:=by rw [List.map_map];rfl
 show (fX _).bind _=_;rw [e,fZ];unfold iC;generalize (List.range 7).filter p=L;show some (V.int _)=some (V.int _);congr 2;induction L with
 |nil=>rfl
 |cons a L ih=>simp only [List.map_cons,List.sum_cons,Int.natCast_add] at ih⊢;rw [ih]
theorem wm {k:Nat} (hk:k<7) (hi:i=(k:Int)):jx .pow (.int 2) (.int i)=some (nI (2^k)):=by refine (if_pos (by simp;exact VF hk hi)).trans ?_;have:i.toNat=k:=o4 hi;rw [this];exact congrArg (some<|V.int ·) (Int.natCast_pow 2 k).symm
theorem BU {n:Nat} {ps:List (List Nat)} {T:Nat→List Nat}:(lv ai 100 (n+1)).f 28 [.lst (ps.map .str),lr 7 fun k=>.str (T k)] []=some (nI (iC fun k=>ps.contains (T k))):=by
 rw [gS];have hs:∀a b,o9 ai (lv ai 100 n) 100 28 [a,b] []=outF (exs (lv ai 100 n) 100 Wg [(30,.fz a),(52,.fz b)]):=fun _ _=>rfl;rw [hs];unfold Wg;generalize lv ai 100 n=C;have e:ev C [(30,.fz (.lst (ps.map .str))),(52,.fz (lr 7 fun k=>.str (T k)))] (.bi .sum [(.comp (.bin .pow (.cn (.int 2)) (.var 49)) (.one 49) (.bi .range [(.cn (.int 7))]) (some (.cmp .isin (.idx (.var 52) (.var 49)) (.var 30))))])=some (nI (iC fun k=>ps.contains (T k))):=by
  refine mX (x:=.lst (((List.range 7).filter fun k=>ps.contains (T k)).map fun k=>nI (2^k))) ?_ (wk _);refine jW (v:=.jM 0 7) (L:=List.range 7) (mX ay rfl) nj (bh rfl) ?_ ?_
  ·intro k hk i hi;have pg:k<7:=List.mem_range.mp hk;refine aU (aZ (aa rfl) (aa (au ..)) (cD (g:=fun k=>.str (T k)) hi pg (by decide))) (aa rfl) ?_;show (bJ (ps.map V.str)).bind (fun l=>some (l.contains (T k)))=_;rw [cB];rfl
  ·intro k hk _ i hi;exact aF ay (aa (au ..)) (wm (List.mem_range.mp hk) hi)
 rw [aY (dw e)];rfl
end
noncomputable def rR (x:Int):Nat:=((x.fdiv 6).fmod 3).toNat
noncomputable def rU (x:Int):Nat:=((x.fdiv 18).fmod 6).toNat
noncomputable def rB (x:Int):Nat:=((x.fdiv 108).fmod 4).toNat
noncomputable def UE:Nat→List Nat
 |1=>[32]
 |2=>[9]
 |_=>[]
noncomputable def UG:Nat→Option (List Nat)
 |2=>some [32,105,116,39,115]
 |3=>some [39,47,39]
 |_=>none
noncomputable def f7 (x:Int) (m:Nat):Row:=⟨[32,9].take (rR x),rU x,UE (rB x),UG (rB x),m,false⟩
theorem fm {a b:Int} {n:Nat} (hb:b=(n:Int)) (h:0<n):a.fmod b=((a.fmod b).toNat:Int)∧(a.fmod b).toNat<n:=by have h1:=Int.fmod_nonneg_of_pos a (show (0:Int)<b by exact Hf hb h);have h2:=Int.fmod_lt_of_pos a (show (0:Int)<b by exact Hf hb h);exact NF hb h1 h2
theorem nt (x:Int):rR x<3:=(fm (n:=3) rfl (by decide)).2
theorem BV (x:Int):rU x<6:=(fm (n:=6) rfl (by decide)).2
theorem BW (x:Int):rB x<4:=(fm (n:=4) rfl (by decide)).2
theorem RT:∀u,u<6→∀m,m<64→39∉we u++(bf m).tail∧(∀x∈we u++(bf m).tail,aQ 1 x=false)∧10∉we u++(bf m).tail∧(we u++(bf m).tail).length<100:=by decide+kernel
noncomputable def l9 (b:Nat):List Nat:=UE b++(match UG b with|none=>[]|some c=>35::c)
theorem RU:∀b,b<4→(∀x∈UE b,aQ 0 x=true)∧(UE b).length<3∧(∀x∈l9 b,aQ 1 x=false)∧10∉l9 b∧(l9 b).length<100∧l9 b=([[],[32],[9,35,32,105,116,39,115],[35,39,47,39]][b]?.getD []):=by decide+kernel
theorem WM:∀b,b<4→∀c,UG b=some c→10∉c∧∀x∈c,aQ 1 x=false:=by
 intro b hb c hc;have:∀b,b<4→(match UG b with|none=>true|some c=>decide (10∉c∧∀x∈c,aQ 1 x=false))=true:=by decide+kernel
 have h:=this b hb;rw [hc] at h;exact of_decide_eq_true h
theorem WN:∀r,r<3→(∀x∈[32,9].take r,aQ 0 x=true)∧([32,9].take r).length=r:=by decide+kernel
theorem f9 {x:Int} {m:Nat} (hm:m<64):gK (f7 x m)∧(f7 x m).core.length<1000∧(f7 x m).w.length=rR x:=by
 obtain ⟨q1,q2,q3,q4⟩:=RT (rU x) (BV x) m hm;obtain ⟨b1,b2,b3,b4,b5,b6⟩:=RU (rB x) (BW x);obtain ⟨w1,w2⟩:=WN (rR x) (nt x);have hr:=nt x;have hq:(f7 x m).q=we (rU x)++(bf m).tail:=rfl;have ht:(f7 x m).tl=l9 (rB x):=rfl;refine ⟨⟨w1,by show ([32,9].take (rR x)).length<3;exact NG w2 hr,BV x,hm,q1,q2,b1,b2,WM (rB x) (BW x),?_,?_⟩,?_,w2⟩
 ·unfold Row.core;rw [hq,ht];simp only [List.mem_cons,List.mem_append,not_or] at q3⊢;exact ⟨by decide,q3,by decide,b4⟩
 ·unfold Row.core;rw [hq,ht];intro y hy;rcases List.mem_cons.mp hy with rfl|hy
  ·decide
  ·rcases List.mem_append.mp hy with hy|hy
   ·exact q2 y hy
   ·rcases List.mem_cons.mp hy with rfl|hy
    ·decide
    ·exact b3 y hy
 ·unfold Row.core;rw [hq,ht,List.length_cons,List.length_append,List.length_cons];exact NH q4 b5
noncomputable def mh (r:Row):V:=.tup [.str r.w,.str (r.core++[10])]
structure WO (m:ao) (N:Nat→Int) (M:Nat→Nat) (n:Nat):Prop where
 ZL:ah m 54=some (.own ((List.range n).map fun k=>mh (f7 (N k) (M k))))
 h51:ah m 51=some (.fz (lr 7 fun k=>.int (N k)))
 UC:ah m 52=some (.fz (lr 7 fun k=>.str (bf (M k))))
 no:∀x∈[49,55,56],∀ys,ah m x≠some (.own ys)
noncomputable abbrev BX:List PS:=[.asg 55 (.idx (.lst [(.cn (.str [47])),(.cn (.str [])),(.cn (.str [47,46,47])),(.cn (.str [47,122,47,46,46,47])),(.cn (.str [47,47,47])),(.cn (.str [46,46,47]))]) (.bin .mod (.bin .fdiv (.idx (.var 51) (.var 49)) (.cn (.int 18))) (.cn (.int 6)))),.asg 56 (.idx (.lst [(.cn (.str [])),(.cn (.str [32])),(.cn (.str [9,35,32,105,116,39,115])),(.cn (.str [35,39,47,39]))]) (.bin .mod (.bin .fdiv (.idx (.var 51) (.var 49)) (.cn (.int 108))) (.cn (.int 4)))),.app 54 (.tup [(.slc (.cn (.str [32,9])) none (some (.bin .mod (.bin .fdiv (.idx (.var 51) (.var 49)) (.cn (.int 6))) (.cn (.int 3)))) none),(.bin .add (.bin .add (.bin .add (.bin .add (.bin .add (.cn (.str [39])) (.var 55)) (.slc (.idx (.var 52) (.var 49)) (some (.cn (.int 1))) none none)) (.cn (.str [39]))) (.var 56)) (.cn (.str [10])))])]
theorem Jd:∀u,u<6→([[47],[],[47,46,47],[47,122,47,46,46,47],[47,47,47],[46,46,47]]:List (List Nat))[u]?=some (we u):=by decide
theorem RW:∀b,b<4→([[],[32],[9,35,32,105,116,39,115],[35,39,47,39]]:List (List Nat))[b]?=some (l9 b):=by decide
theorem UH {C:Calls} {x:Int} {a b:Int} {n:Nat} (h:ev C m e=some (.int x)) (ha:small a=true) (ha0:a≠0) (hb:b=(n:Int)) (hn:0<n):∃i:Int,ev C m (.bin .mod (.bin .fdiv e (.cn (.int a))) (.cn (.int b)))=some (.int i)∧i=((((x.fdiv a).fmod b).toNat:Nat):Int):=by
 refine ⟨(x.fdiv a).fmod b,aF (aF h ay (z:=.int (x.fdiv a)) ?_) ay ?_,(fm hb hn).1⟩
 ·exact if_pos (by simp [ha,ha0])
 ·exact if_pos (by simp;exact NI hb hn)
theorem gr {C:Calls} {N:Nat→Int} {n:Nat} (hn:n<7) (hM:M n<64) (H:WO m N M n):∃m',fK C 100 (.one 49) BX m (nI n)=some (.next,m')∧WO m' N M (n+1):=by
 obtain ⟨i,hi⟩:∃i:Int,i=(n:Int):=⟨_,rfl⟩;have tK:bQ m (.one 49) (nI n)=some (ak m 49 (.fz (.int i))):=by rw [show nI n=.int i by rw [hi]];simp only [bQ];exact cy (H.no 49 (by decide))
 generalize hm1:ak m 49 (.fz (.int i))=m1 at tK;have yv:ah m1 49=some (.fz (.int i)):=DX hm1;have gx:∀x,x≠49→ah m1 x=ah m x:=fun x h=>by rw [←hm1,aR _ _ h]
 have eN:∀m',ah m' 49=some (.fz (.int i))→ah m' 51=some (.fz (lr 7 fun k=>.int (N k)))→ev C m' (.idx (.var 51) (.var 49))=some (.int (N n)):=fun m' h1 h2=>aZ (aa h2) (aa h1) (cD (g:=fun k=>.int (N k)) hi hn (by decide));have WQ:ah m1 51=some (.fz (lr 7 fun k=>.int (N k))):=by rw [gx 51 (by decide)];exact H.h51
 obtain ⟨u,u1,u2⟩:=UH (C:=C) (m:=m1) (a:=18) (b:=6) (n:=6) (eN m1 yv WQ) (by decide) (by decide) rfl (by decide);have hu:(((N n).fdiv 18).fmod 6).toNat=rU (N n):=rfl;rw [hu] at u2;have WR:=BV (N n);have ZM:ex C 100 (.asg 55 (.idx (.lst [(.cn (.str [47])),(.cn (.str [])),(.cn (.str [47,46,47])),(.cn (.str [47,122,47,46,46,47])),(.cn (.str [47,47,47])),(.cn (.str [46,46,47]))]) (.bin .mod (.bin .fdiv (.idx (.var 51) (.var 49)) (.cn (.int 18))) (.cn (.int 6))))) m1=some (.next,ak m1 55 (.fz (.str (we (rU (N n)))))):=
  aD (aZ (x:=.lst ([[47],[],[47,46,47],[47,122,47,46,46,47],[47,47,47],[46,46,47]].map .str)) (by rw [qR];simp only [jO,jR,ay];rfl) u1 (m8 ⟨by exact lD u2,by exact NJ u2 WR⟩ (by
   have:u.toNat=rU (N n):=o4 u2
   rw [this,List.getElem?_map,Jd _ WR];rfl))) (by rw [gx 55 (by decide)];exact H.no 55 (by decide))
 generalize hm2:ak m1 55 (.fz (.str (we (rU (N n)))))=m2 at ZM;have k55:ah m2 55=some (.fz (.str (we (rU (N n))))):=DX hm2;have kx:∀x,x≠55→ah m2 x=ah m1 x:=fun x h=>by rw [←hm2,aR _ _ h]
 obtain ⟨b,b1,b2⟩:=UH (C:=C) (m:=m2) (a:=108) (b:=4) (n:=4) (eN m2 (by rw [kx 49 (by decide)];exact yv) (by rw [kx 51 (by decide)];exact WQ)) (by decide) (by decide) rfl (by decide);have hb:(((N n).fdiv 108).fmod 4).toNat=rB (N n):=rfl;rw [hb] at b2;have WS:=BW (N n);have ZN:ex C 100 (.asg 56 (.idx (.lst [(.cn (.str [])),(.cn (.str [32])),(.cn (.str [9,35,32,105,116,39,115])),(.cn (.str [35,39,47,39]))]) (.bin .mod (.bin .fdiv (.idx (.var 51) (.var 49)) (.cn (.int 108))) (.cn (.int 4))))) m2=some (.next,ak m2 56 (.fz (.str (l9 (rB (N n)))))):=
  aD (aZ (x:=.lst ([[],[32],[9,35,32,105,116,39,115],[35,39,47,39]].map .str)) (by rw [qR];simp only [jO,jR,ay];rfl) b1 (m8 ⟨by exact lD b2,by exact NK b2 WS⟩ (by
   have:b.toNat=rB (N n):=o4 b2
   rw [this,List.getElem?_map,RW _ WS];rfl))) (by rw [kx 56 (by decide),gx 56 (by decide)];exact H.no 56 (by decide))
 generalize tH:ak m2 56 (.fz (.str (l9 (rB (N n)))))=m3 at ZN;have ZO:ah m3 56=some (.fz (.str (l9 (rB (N n))))):=DX tH;have ox:∀x,x≠56→ah m3 x=ah m2 x:=fun x h=>by rw [←tH,aR _ _ h]
 have ZP:ah m3 55=some (.fz (.str (we (rU (N n))))):=by rw [ox 55 (by decide)];exact k55
 have WT:ah m3 49=some (.fz (.int i)):=by rw [ox 49 (by decide),kx 49 (by decide)];exact yv
 have ZQ:ah m3 51=some (.fz (lr 7 fun k=>.int (N k))):=by rw [ox 51 (by decide),kx 51 (by decide)];exact WQ
 have ZR:ah m3 52=some (.fz (lr 7 fun k=>.str (bf (M k)))):=by rw [ox 52 (by decide),kx 52 (by decide),gx 52 (by decide)];exact H.UC
 have o54:ah m3 54=some (.own ((List.range n).map fun k=>mh (f7 (N k) (M k)))):=by rw [ox 54 (by decide),kx 54 (by decide),gx 54 (by decide)];exact H.ZL
 obtain ⟨r,r1,r2⟩:=UH (C:=C) (m:=m3) (a:=6) (b:=3) (n:=3) (eN m3 WT ZQ) (by decide) (by decide) rfl (by decide);have hr:(((N n).fdiv 6).fmod 3).toNat=rR (N n):=rfl;rw [hr] at r2;have hr3:=nt (N n);have ew:ev C m3 (.slc (.cn (.str [32,9])) none (some (.bin .mod (.bin .fdiv (.idx (.var 51) (.var 49)) (.cn (.int 6))) (.cn (.int 3)))) none)=some (.str ([32,9].take (rR (N n)))):=by have:r.toNat=rR (N n):=o4 r2;exact tV ay rfl (iy r1) rfl ((m9 rfl (cA ⟨by exact lD r2,by exact NL r2 hr3⟩)).trans (by rw [this];rfl))
 have et:ev C m3 (.slc (.idx (.var 52) (.var 49)) (some (.cn (.int 1))) none none)=some (.str (bf (M n)).tail):=by refine tV (aZ (aa ZR) (aa WT) (cD (g:=fun k=>.str (bf (M k))) hi hn (by decide))) (iy ay) rfl rfl ((m9 (cA (by decide)) rfl).trans ?_);rw [IJ];exact congrArg (some<|V.str ·) List.drop_one
 obtain ⟨q1,q2,q3,q4⟩:=RT (rU (N n)) WR (M n) hM;obtain ⟨t1,t2,t3,t4,t5,t6⟩:=RU (rB (N n)) WS;rw [List.length_append] at q4;have s1:=add_str (ay (C:=C) (m:=m3) (v:=.str [39])) (aa ZP) (by rw [List.length_singleton];exact NN q4);have s2:=add_str s1 et (by simp only [List.length_append,List.length_singleton];exact NO q4);have s3:=add_str s2 (ay (v:=.str [39])) (by simp only [List.length_append,List.length_singleton];exact NP q4);have s4:=add_str s3 (aa ZO) (by simp only [List.length_append,List.length_singleton];exact NQ q4 t5);have s5:=add_str s4 (ay (v:=.str [10])) (by simp only [List.length_append,List.length_singleton];exact NR q4 t5);have ea:=kJ (K:=100) o54 (Rw ew s5) (by rw [List.length_map,List.length_range];exact A5 hn);have hv:V.tup [.str ([32,9].take (rR (N n))),.str ([39]++we (rU (N n))++(bf (M n)).tail++[39]++l9 (rB (N n))++[10])]=mh (f7 (N n) (M n)):=by
  unfold mh;have:(f7 (N n) (M n)).core++[10]=[39]++we (rU (N n))++(bf (M n)).tail++[39]++l9 (rB (N n))++[10]:=by have hq:(f7 (N n) (M n)).q=we (rU (N n))++(bf (M n)).tail:=rfl;have ht:(f7 (N n) (M n)).tl=l9 (rB (N n)):=rfl;unfold Row.core;rw [hq,ht];simp
  rw [this];rfl
 rw [hv] at ea;refine ⟨_,by unfold fK;rw [tK,Option.bind_some,af ZM,af ZN,af ea,aK],?_,?_,?_,?_⟩
 ·rw [au,List.range_succ,List.map_append,List.map_singleton]
 ·rw [cE];exact ZQ
 ·rw [cE];exact ZR
 ·intro x hx ys;simp only [List.mem_cons,List.not_mem_nil,or_false] at hx;rcases hx with rfl|rfl|rfl
  ·rw [cE,WT];simp
  ·rw [cE,ZP];simp
  ·rw [cE,ZO];simp
theorem Je {n:Nat} {N:Nat→Int} (hM:∀k,k<7→M k<64):(lv ai 100 (n+1)).f 18 [lr 7 fun k=>.int (N k),lr 7 fun k=>.str (bf (M k))] []=some (lr 7 fun k=>mh (f7 (N k) (M k))):=by
 rw [gS];have hs:∀a b,o9 ai (lv ai 100 n) 100 18 [a,b] []=outF (exs (lv ai 100 n) 100 V8 [(51,.fz a),(52,.fz b)]):=fun _ _=>rfl;rw [hs];unfold V8;generalize lv ai 100 n=C;have e1:ex C 100 (.bE 54 []) [(51,.fz (lr 7 fun k=>.int (N k))),(52,.fz (lr 7 fun k=>.str (bf (M k))))]=some (.next,[(51,.fz (lr 7 fun k=>.int (N k))),(52,.fz (lr 7 fun k=>.str (bf (M k)))),(54,.own [])]):=by rw [IF,jO];rfl
 have H0:WO [(51,.fz (lr 7 fun k=>.int (N k))),(52,.fz (lr 7 fun k=>.str (bf (M k)))),(54,.own [])] N M 0:=⟨rfl,rfl,rfl,by
  intro x hx;simp only [List.mem_cons,List.not_mem_nil,or_false] at hx
  rcases hx with rfl|rfl|rfl <;>simp [ah]⟩
 obtain ⟨m1,s1,H1⟩:=gr (C:=C) (by decide) (hM 0 (by decide)) H0;obtain ⟨m2,s2,H2⟩:=gr (C:=C) (by decide) (hM 1 (by decide)) H1;obtain ⟨m3,s3,H3⟩:=gr (C:=C) (by decide) (hM 2 (by decide)) H2;obtain ⟨m4,s4,H4⟩:=gr (C:=C) (by decide) (hM 3 (by decide)) H3;obtain ⟨m5,s5,H5⟩:=gr (C:=C) (by decide) (hM 4 (by decide)) H4;obtain ⟨m6,s6,H6⟩:=gr (C:=C) (by decide) (hM 5 (by decide)) H5;obtain ⟨m7,s7,H7⟩:=gr (C:=C) (by decide) (hM 6 (by decide)) H6;have e2:ex C 100 (.dW (.one 49) (.bi .range [(.cn (.int 7))]) BX) [(51,.fz (lr 7 fun k=>.int (N k))),(52,.fz (lr 7 fun k=>.str (bf (M k)))),(54,.own [])]=some (.next,m7):=by rw [iu (v:=.jM 0 7) (m':=[(51,.fz (lr 7 fun k=>.int (N k))),(52,.fz (lr 7 fun k=>.str (bf (M k)))),(54,.own [])]) (xs:=(List.range 7).map nI) (by rw [lG,mX ay (y:=.jM 0 7) rfl]) nj];show forL _ [nI 0,nI (0+1),nI (0+1+1),nI (0+1+1+1),nI (0+1+1+1+1),nI (0+1+1+1+1+1),nI (0+1+1+1+1+1+1)] _=_;rw [aL s1,aL s2,aL s3,aL s4,aL s5,aL s6,aL s7,jT]
 rw [af e1,af e2,aY (q9 H7.ZL)];rfl
section
theorem rq:∀m,m<64→∀r,r<3→fL m r<64∧pc (fL m r)=pc m-r∧pc (m &&& fL m r)=pc (fL m r):=by decide+kernel
theorem wo:∀n,n<6→∀p,p<2^n→Zm (p+2^n)=p∧(n+1)∉aW p∧aW (p+2^n)=aW p++[n+1]:=by decide+kernel
theorem Jf:∀n,n<6→∀p,p<2^n→∀q,q<2^n→(p+2^n) &&& q=p &&& q:=by decide+kernel
noncomputable def pn (x y:List Int):List Int:=(x.filter fun a=>!y.contains a)++y.filter fun a=>!x.contains a
noncomputable def yw (m:Nat):List Int:=(0::aW m).map Int.ofNat
theorem Eu:((List.range 64).all fun a=>(List.range 64).all fun b=>(pn (yw a) (yw b)).length+2*pc (a &&& b)==pc a+pc b&&Nat.ble (pn (yw a) (yw b)).length 7)=true:=by decide+kernel
theorem Jg {a b:Nat} (ha:a<64) (hb:b<64):((pn (yw a) (yw b)).length:Int)=dst b a∧(pn (yw a) (yw b)).length≤7:=by have h:=List.all_eq_true.mp (List.all_eq_true.mp Eu a (List.mem_range.mpr ha)) b (List.mem_range.mpr hb);obtain ⟨h1,h2⟩:=Bool.and_eq_true_iff.mp h;have h1:=eq_of_beq h1;have h2:=Nat.le_of_ble_eq_true h2;refine ⟨?_,h2⟩;unfold dst;rw [Nat.and_comm b a];exact O1 h1
theorem yx {α:Type} [DecidableEq α] {k:α}:∀(x y:List α),k∉y→cM (x++[k]) y=cM x y
 |[],[],_=>rfl
 |[],b::t,h=>by simp only [List.nil_append,cM];rw [if_neg (fun e=>h (by simp [e]))]
 |a::r,[],_=>rfl
 |a::r,b::t,h=>by
  simp only [List.cons_append,tZ]
  by_cases e:a=b
  ·rw [if_pos e,if_pos e,yx r t fun q=>h (by simp [q])]
  ·rw [if_neg e,if_neg e]
theorem pZ {α:Type} [DecidableEq α]:∀(n:Nat) (x y z:List α),n≤(cM x y).length→n≤(cM y z).length→n≤(cM x z).length
 |0,_,_,_,_,_=>Nat.zero_le _
 |n+1,[],y,z,h,_=>absurd h (Nat.not_succ_le_zero n)
 |n+1,a::r,[],z,h,_=>absurd h (Nat.not_succ_le_zero n)
 |n+1,a::r,b::t,[],_,h=>absurd h (Nat.not_succ_le_zero n)
 |n+1,a::r,b::t,c::u,h1,h2=>by
  simp only [tZ] at h1 h2⊢
  by_cases e1:a=b
  ·by_cases e2:b=c
   ·rw [if_pos e1] at h1;rw [if_pos e2] at h2;rw [if_pos (e1.trans e2)];simp only [List.length_cons] at *;have:=pZ n r t u (Ht h1) (Ht h2);exact O8 this
   ·rw [if_neg e2] at h2;simp at h2
  ·rw [if_neg e1] at h1;simp at h1
theorem zJ {a b:Nat} (h:Cons a b):Cons b a:=by unfold Cons at h⊢;rw [nh,h,Nat.and_comm]
theorem p7 (a:Nat):Cons a a:=by unfold Cons;rw [t8,Nat.and_self]
theorem nu {a b:Nat} (h1:Cons a b) (h2:Cons b c) (h3:Cons a c) (n:Nat) (k1:n≤pc (a &&& b)) (k2:n≤pc (b &&& c)):n≤pc (a &&& c):=by unfold pc at k1 k2⊢;rw [←h1] at k1;rw [←h2] at k2;rw [←h3];exact pZ n _ _ _ k1 k2
theorem HV:((List.range 64).all fun a=>(List.range 64).all fun b=>Nat.ble (pc (a &&& b)) (pc a))=true:=by decide+kernel
theorem rG {a b:Nat} (ha:a<64) (hb:b<64):pc (a &&& b)≤pc a∧pc (a &&& b)≤pc b:=by have h1:=Nat.le_of_ble_eq_true (List.all_eq_true.mp (List.all_eq_true.mp HV a (List.mem_range.mpr ha)) b (List.mem_range.mpr hb));have h2:=Nat.le_of_ble_eq_true (List.all_eq_true.mp (List.all_eq_true.mp HV b (List.mem_range.mpr hb)) a (List.mem_range.mpr ha));rw [Nat.and_comm] at h2;exact ⟨h1,h2⟩
theorem greedy {p q v r r':Nat} (hp:p<64) (hq:q<64) (hv:v<64) (hr:r<3) (hr':r'<3) (cpt:Cons p (fL p r)) (cvp:Cons v p) (ZS:Cons q v) (WU:Cons v (fL p r)) (ZT:Cons q (fL p r))
  (hd:pc (fL q r')≤pc (fL p r)) (hf:¬dst q (fL p r)≤(r':Int)) (h1:dst p v≤(r:Int)) (h2:dst q v≤(r':Int)):False:=by
 obtain ⟨t1,t2,t3⟩:=rq p hp r hr;obtain ⟨s1,s2,s3⟩:=rq q hq r' hr';generalize fL p r=t at *;have a1:=rG hp hv;have a2:=rG hq hv;have a3:=rG hv t1;have a4:=rG hq t1;unfold dst at *;have u1:=nu cvp cpt WU (pc t) (by rw [Nat.and_comm v p];exact Pe h1 t2 a1) (Pf t3)
 by_cases hc:pc t≤pc (q &&& v)
 ·have u2:=nu ZS WU ZT (pc t) hc u1;exact (Pg s2 hd hf u2).elim
 ·have u2:=nu ZS WU ZT (pc (q &&& v)) (Nat.le_refl _) (Ph u1 hc);exact (Pj h2 hf a3 u1 u2).elim
section
variable {A M:Nat→Nat} (T:Tree A M)
include T
theorem Tree.rH:∀n,n≤6→∀i j,i≤n→j≤n→Cons (M i) (M j)
 |0,_,i,j,hi,hj=>by obtain rfl:i=0:=A7 hi;obtain rfl:j=0:=A7 hj;exact p7 _
 |n+1,hn,i,j,hi,hj=>by
  have key:∀j,j≤n→Cons (M (n+1)) (M j):=by intro j hj;have hA:=T.a1 (n+1) (by exact tR);have ih:=Tree.rH n (Hv hn) (A (n+1)) j (xW hA) hj;have hp:=T.rm n;have hq:M j<2^n:=Nat.lt_of_lt_of_le (T.lt j) (Nat.pow_le_pow_right (by decide) hj);obtain ⟨a1,a2,a3⟩:=wo n (Be hn) _ hp;obtain ⟨b1,b2,b3⟩:=wo n (Be hn) _ hq;unfold Cons at ih⊢;rw [T.m1,a3,Jf n (by exact Be hn) _ hp _ hq,yx _ _ b2,ih]
  by_cases h1:i=n+1
  ·by_cases h2:j=n+1
   ·rw [h1,h2];exact p7 _
   ·rw [h1];exact key j (xX hj h2)
  ·by_cases h2:j=n+1
   ·rw [h2];exact zJ (key i (xX hi h1))
   ·exact Tree.rH n (Hv hn) i j (xX hi h1) (xX hj h2)
theorem Tree.cons {i:Nat} (hi:i<7) (hj:j<7):Cons (M i) (M j):=T.rH 6 (by decide) i j (Bd hi) (Bd hj)
theorem Tree.inj {i:Nat} (hi:i<7) (hj:j<7) (h:M i=M j):i=j:=by
 have key:∀i j,i<j→M i<M j:=by intro i j hij;obtain ⟨k,rfl⟩:∃k,j=k+1:=⟨j-1,by exact O7 hij⟩;have h1:=T.lt i;have h2:=T.ge k;have h3:2^i≤2^k:=Nat.pow_le_pow_right (by decide) (xW hij);exact Pb h1 h2 h3
 rcases Nat.lt_trichotomy i j with q|q|q
 ·have:=key i j q;exact (Pc h this).elim
 ·exact q
 ·have:=key j i q;exact (Pd h this).elim
theorem Tree.top:∀r k,k<7→∃j,j<7∧fL (M k) r=M j
 |0,k,hk=>⟨k,hk,rfl⟩
 |r+1,0,hk=>by rw [fL,T.m0,if_pos rfl];have:=Tree.top r 0 (by decide);rw [T.m0] at this;exact this
 |r+1,k+1,hk=>by have h0:=T.ge k;have h1:0<2^k:=Nat.pow_pos (by decide);have hA:=T.a1 (k+1) (by exact tR);rw [fL,if_neg (by exact Hu h0 h1),T.m1,(wo k (by exact O9 hk) _ (T.rm k)).1];exact Tree.top r (A (k+1)) (Pa hk hA)
end
end
section
theorem Ew (op:β→α→β) (acc:List β) (L:List α) (a:α):sub op acc (L++[a])=sub op acc L++(sub op acc L).map fun b=>op b a:=by unfold sub;rw [List.foldl_append];rfl
noncomputable abbrev t9 (n c:Nat):List Nat:=(List.range n).filter c.testBit
theorem BY {α β:Type} (op:β→α→β) (b0:β) (f:Nat→α):∀n,(sub op [b0] ((List.range n).map f)).length=2^n∧∀c,c<2^n→(sub op [b0] ((List.range n).map f))[c]?=some (((t9 n c).map f).foldl op b0)
 |0=>⟨rfl,fun c hc=>by
  obtain rfl:c=0:=by simpa using hc
  rfl⟩
 |n+1=>by
  obtain ⟨h1,h2⟩:=BY op b0 f n;rw [List.range_succ,List.map_append,List.map_singleton,Ew];refine ⟨by rw [List.length_append,List.length_map,h1,Nat.pow_succ];exact Pn,?_⟩;intro c hc;unfold t9;rw [List.range_succ,List.filter_append,List.map_append,List.foldl_append]
  by_cases hlt:c<2^n
  ·rw [List.getElem?_append_left (by rw [h1];exact hlt),h2 c hlt];have hb:c.testBit n=false:=Nat.testBit_lt_two_pow hlt;rw [List.filter_cons_of_neg (by rw [hb];decide)];rfl
  ·obtain ⟨x,rfl⟩:∃x,c=2^n+x:=⟨c-2^n,by exact Pr hlt⟩;have hx:x<2^n:=by rw [Nat.pow_succ] at hc;exact Pw hc
   rw [List.getElem?_append_right (by rw [h1];exact Py),h1,Nat.add_sub_cancel_left,List.getElem?_map,h2 x hx];have hb:(2^n+x).testBit n=true:=by rw [Nat.testBit_two_pow_add_eq,Nat.testBit_lt_two_pow hx];rfl
   have hf:(List.range n).filter (2^n+x).testBit=t9 n x:=List.filter_congr fun i hi=>Nat.testBit_two_pow_add_gt (List.mem_range.mp hi) x;rw [hf,List.filter_cons_of_pos hb];rfl
theorem Ey (n:Nat) (p:Nat→Bool):(((List.range (n+1)).filter p).map fun k=>2^k).sum=(((List.range n).filter p).map fun k=>2^k).sum+if p n then 2^n else 0:=by
 rw [List.range_succ,List.filter_append,List.map_append,List.sum_append];cases hp:p n with
 |true=>rw [List.filter_cons_of_pos hp];simp
 |false=>rw [List.filter_cons_of_neg (by rw [hp];decide)];simp
theorem BZ (p:Nat→Bool):∀n,(((List.range n).filter p).map fun k=>2^k).sum<2^n∧∀k,k<n→((((List.range n).filter p).map fun k=>2^k).sum).testBit k=p k
 |0=>⟨Nat.zero_lt_one,fun k hk=>by exact (IC hk).elim⟩
 |n+1=>by
  obtain ⟨h1,h2⟩:=BZ p n;rw [Ey];generalize (((List.range n).filter p).map fun k=>2^k).sum=x at *;refine ⟨by rw [Nat.pow_succ];split <;>omega,?_⟩;intro k hk
  by_cases e:k=n
  ·subst e;cases hp:p k with
   |true=>rw [if_pos rfl,Nat.add_comm,Nat.testBit_two_pow_add_eq,Nat.testBit_lt_two_pow h1];rfl
   |false=>rw [if_neg (by decide),Nat.add_zero,Nat.testBit_lt_two_pow h1]
  ·have hk':k<n:=Pu hk e;split
   ·rw [Nat.add_comm,Nat.testBit_two_pow_add_gt hk',h2 k hk']
   ·rw [Nat.add_zero,h2 k hk']
theorem jA (p:Nat→Bool):iC p<128:=(BZ p 7).1
theorem gu (p:Nat→Bool) {k:Nat} (hk:k<7):(iC p).testBit k=p k:=(BZ p 7).2 k hk
theorem B0 (p:Nat→Bool) {k:Nat} (hk:7≤k):(iC p).testBit k=false:= Nat.testBit_lt_two_pow (Nat.lt_of_lt_of_le (show iC p<2^7 from jA p) (Nat.pow_le_pow_right (by decide) hk))
theorem jY (p:Nat→Bool):t9 7 (iC p)=(List.range 7).filter p:=List.filter_congr fun _ hk=>gu p (List.mem_range.mp hk)
theorem yy {k:Nat}:k∈t9 7 c↔k<7∧c.testBit k=true:=by rw [List.mem_filter,List.mem_range]
theorem rI (f:Nat→Nat) (j:Nat):∀(L:List Nat) (b:Nat),((L.map f).foldl Es b).testBit j=(b.testBit j||L.any fun i=>(f i).testBit j)
 |[],b=>by simp
 |a::L,b=>by rw [List.map_cons,List.foldl_cons,rI f j L,Es,Nat.testBit_or,List.any_cons,Bool.or_assoc]
theorem RX:∀j,j<7→(127:Nat).testBit j=true:=by decide
theorem RY (h:7≤j):(127:Nat).testBit j=false:= Nat.testBit_lt_two_pow (Nat.lt_of_lt_of_le (show 127<2^7 by decide) (Nat.pow_le_pow_right (by decide) h))
theorem kQ (near:Nat→Nat→Bool) (L:List Nat):((L.map fun i=>iC fun j=>near i j).foldl Es 0=127)↔∀j,j<7→∃i∈L,near i j=true:=by
 constructor
 ·intro h j hj;have e:=rI (fun i=>iC fun j=>near i j) j L 0;rw [h,RX j hj,Nat.zero_testBit,Bool.false_or] at e;obtain ⟨i,h1,h2⟩:=List.any_eq_true.mp e.symm;rw [gu _ hj] at h2;exact ⟨i,h1,h2⟩
 ·intro h;refine Nat.eq_of_testBit_eq fun j=>?_;rw [rI (fun i=>iC fun j=>near i j) j L 0,Nat.zero_testBit,Bool.false_or]
  by_cases hj:j<7
  ·rw [RX j hj];obtain ⟨i,h1,h2⟩:=h j hj;exact List.any_eq_true.mpr ⟨i,h1,by rw [gu _ hj];exact h2⟩
  ·rw [RY (by exact Bf hj),List.any_eq_false];intro i _;rw [B0 _ (by exact Bf hj)];decide
noncomputable def HW (near:Nat→Nat→Bool) (j k:Nat):Prop:=∀v,v<7→¬(near v j=true∧near v k=true)
theorem yz (near:Nat→Nat→Bool) (j k:Nat):((iC fun i=>near i j) &&& (iC fun i=>near i k)=0)↔HW near j k:=by
 constructor
 ·intro h v hv q;have e:((iC fun i=>near i j) &&& (iC fun i=>near i k)).testBit v=true:=by
   rw [Nat.testBit_and,gu _ hv,gu _ hv,q.1,q.2];rfl
  rw [h,Nat.zero_testBit] at e;cases e
 ·intro h;refine Nat.eq_of_testBit_eq fun v=>?_;rw [Nat.testBit_and,Nat.zero_testBit]
  by_cases hv:v<7
  ·rw [gu _ hv,gu _ hv];have:=h v hv;cases h1:near v j <;>cases h2:near v k <;>simp_all
  ·rw [B0 _ (by exact Bf hv)];rfl
theorem Ez (L:List Nat):L.foldl BQ none=none:=by
 induction L with
 |nil=>rfl
 |cons a L ih=>exact ih
theorem B3:∀(L:List Nat) (b:Nat),(L.foldl BQ (some b)).isSome=true↔(∀a∈L,b &&& a=0)∧L.Pairwise fun a c=>a &&& c=0
 |[],b=>by simp
 |a::L,b=>by
  rw [List.foldl_cons];have e:BQ (some b) a=if b &&& a=0 then some (b ||| a) else none:=rfl
  rw [e]
  by_cases h:b &&& a=0
  ·rw [if_pos h,B3 L (b ||| a),List.pairwise_cons];have k:∀x,(b ||| a) &&& x=0↔b &&& x=0∧a &&& x=0:=by
    intro x;rw [Nat.and_or_distrib_right,Nat.or_eq_zero_iff]
   constructor
   ·rintro ⟨h1,h2⟩;refine ⟨?_,fun x hx=>((k x).mp (h1 x hx)).2,h2⟩;intro x hx;rcases List.mem_cons.mp hx with rfl|hx
    ·exact h
    ·exact ((k x).mp (h1 x hx)).1
   ·rintro ⟨h1,h2,h3⟩;exact ⟨fun x hx=>(k x).mpr ⟨h1 x (List.mem_cons_of_mem _ hx),h2 x hx⟩,h3⟩
  ·rw [if_neg h,Ez];constructor
   ·intro q;cases q
   ·intro q;exact absurd (q.1 a (List.mem_cons_self ..)) h
theorem nv (near:Nat→Nat→Bool) (L:List Nat):((L.map fun j=>iC fun i=>near i j).foldl BQ (some 0)).isSome=true↔L.Pairwise (HW near):=by
 rw [B3,List.pairwise_map];constructor
 ·intro h;exact h.2.imp fun q=>(yz near _ _).mp q
 ·intro h;exact ⟨fun a _=>Nat.zero_and a,h.imp fun q=>(yz near _ _).mpr q⟩
theorem jZ {α:Type} (Rl:α→Nat→Prop):∀(L1:List α) (L2:List Nat),L1.Pairwise (fun a c=>∀b∈L2,¬(Rl a b∧Rl c b))→(∀a∈L1,∃b∈L2,Rl a b)→L1.length≤L2.length
 |[],_,_,_=>by simp
 |a::r,L2,hp,he=>by
  obtain ⟨b,hb,hr⟩:=he a (List.mem_cons_self ..);obtain ⟨p1,p2⟩:=List.pairwise_cons.mp hp
  have ih:=jZ Rl r (L2.erase b) (p2.imp fun q x hx=>q x (List.mem_of_mem_erase hx)) (by
   intro c hc;obtain ⟨b',h1,h2⟩:=he c (List.mem_cons_of_mem _ hc);have hne:b'≠b:=by rintro rfl;exact p1 c hc b' hb ⟨hr,h2⟩
   exact ⟨b',(List.mem_erase_of_ne hne).mpr h1,h2⟩)
  rw [List.length_erase_of_mem hb] at ih;have:=List.length_pos_of_mem hb;rw [List.length_cons];exact Pq ih this
theorem B4 {α:Type} {Rl:α→α→Prop} (hs:∀a b,Rl a b→Rl b a):∀{L:List α},L.Pairwise Rl→∀a∈L,∀b∈L,a≠b→Rl a b
 |[],_,a,ha,_,_,_=>by simp at ha
 |x::L,hp,a,ha,b,hb,hne=>by
  obtain ⟨p1,p2⟩:=List.pairwise_cons.mp hp;rcases List.mem_cons.mp ha with ea|ha2
  ·rcases List.mem_cons.mp hb with eb|hb2
   ·exact absurd (ea.trans eb.symm) hne
   ·rw [ea];exact p1 b hb2
  ·rcases List.mem_cons.mp hb with eb|hb2
   ·rw [eb];exact hs _ _ (p1 a ha2)
   ·exact B4 hs p2 a ha2 b hb2 hne
theorem B5 {k:Nat} (h:HW near j k):HW near k j:=fun v hv q=>h v hv ⟨q.2,q.1⟩
theorem yC:∀(L:List Nat) (b:Nat),L.foldl Et b=b+L.length
 |[],b=>rfl
 |a::L,b=>by rw [List.foldl_cons,yC L,Et,List.length_cons];exact Pp
structure rJ (near:Nat→Nat→Bool) (t:Nat→Nat) (H:List Nat):Prop where
 h7:∀h∈H,h<7
 t7:∀h∈H,t h<7
 own:∀h∈H,near (t h) h=true
 HT:∀j,j<7→∃h∈H,near (t h) j=true
 WV:H.Pairwise (HW near)
section
variable {near:Nat→Nat→Bool} {t:Nat→Nat} {H:List Nat} (B:rJ near t H)
include B
theorem rJ.ua (hL:∀i∈L,i<7) (h:∀j,j<7→∃i∈L,near i j=true):H.length≤L.length:= jZ (fun h i=>near i h=true) H L (B.WV.imp fun q b hb=>q b (hL b hb)) fun a ha=>h a (B.h7 a ha)
theorem rJ.yD (hL:∀i∈L,i<7) (h:L.Pairwise (HW near)):L.length≤H.length:= jZ (fun j h=>near (t h) j=true) L H (h.imp fun q b hb=>q (t b) (B.t7 b hb)) fun a ha=>B.HT a (hL a ha)
omit B in
theorem uc (p:Nat→Bool):((List.range 7).filter p).Pairwise fun a b=>a≠b:=(List.pairwise_lt_range (n:=7)).imp (fun h=>Nat.ne_of_lt h) |>.filter p
theorem rJ.B6:(∀j,j<7→∃i∈(List.range 7).filter (fun k=>(H.map t).contains k),near i j=true)∧((List.range 7).filter (fun k=>(H.map t).contains k)).length=H.length:=by
 have h1:∀j,j<7→∃i∈(List.range 7).filter (fun k=>(H.map t).contains k),near i j=true:=by intro j hj;obtain ⟨h,h2,h3⟩:=B.HT j hj;exact ⟨t h,List.mem_filter.mpr ⟨List.mem_range.mpr (B.t7 h h2),List.contains_iff_mem.mpr (List.mem_map.mpr ⟨h,h2,rfl⟩)⟩,h3⟩
 refine ⟨h1,Nat.le_antisymm ?_ (B.ua (fun i hi=>List.mem_range.mp (List.mem_filter.mp hi).1) h1)⟩;refine jZ (fun k h=>k=t h) _ H ((uc _).imp fun q b _ e=>q (e.1.trans e.2.symm)) ?_;intro a ha;obtain ⟨h,h2,h3⟩:=List.mem_map.mp (List.contains_iff_mem.mp (List.mem_filter.mp ha).2);exact ⟨h,h2,h3.symm⟩
theorem rJ.B7:((List.range 7).filter (fun k=>H.contains k)).Pairwise (HW near)∧((List.range 7).filter (fun k=>H.contains k)).length=H.length:=by
 have h1:((List.range 7).filter (fun k=>H.contains k)).Pairwise (HW near):=by refine List.Pairwise.imp_of_mem ?_ (uc _);intro a b ha hb hne;exact B4 (fun _ _=>B5) B.WV a (List.contains_iff_mem.mp (List.mem_filter.mp ha).2) b (List.contains_iff_mem.mp (List.mem_filter.mp hb).2) hne
 refine ⟨h1,Nat.le_antisymm (B.yD (fun i hi=>List.mem_range.mp (List.mem_filter.mp hi).1) h1) ?_⟩;refine jZ (fun h k=>h=k) H _ ?_ fun a ha=>⟨a,List.mem_filter.mpr ⟨List.mem_range.mpr (B.h7 a ha),List.contains_iff_mem.mpr ha⟩,rfl⟩;refine List.Pairwise.imp_of_mem ?_ B.WV;intro a c ha hc q b _ e;have:a=c:=e.1.trans e.2.symm;subst this;exact q (t a) (B.t7 a ha) ⟨B.own a ha,B.own a ha⟩
end
end
section
section
variable {A M:Nat→Nat} {N:Nat→Int} (T:Tree A M)
noncomputable abbrev rowOf (N:Nat→Int) (M:Nat→Nat) (k:Nat):Row:=f7 (N k) (M k)
noncomputable def dB (N:Nat→Int) (M:Nat→Nat) (i j:Nat):Bool:=decide (dst (M j) (M i)≤(rR (N j):Int))
theorem nB {α β:Type} {f:α→β} {p:α→Prop}:∀(l:List β),(∀b∈l,∃a,p a∧b=f a)→∃l':List α,(∀a∈l',p a)∧l=l'.map f
 |[],_=>⟨[],by simp,rfl⟩
 |b::l,h=>by
  obtain ⟨a,h1,rfl⟩:=h b (List.mem_cons_self ..);obtain ⟨l',h2,rfl⟩:=nB l fun x hx=>h x (List.mem_cons_of_mem _ hx);refine ⟨a::l',?_,rfl⟩;intro x hx;rcases List.mem_cons.mp hx with e|hx
  ·rw [e];exact h1
  ·exact h2 x hx
include T
theorem p8 {k:Nat} (hk:k<7):tp (rowOf N M k)=fL (M k) (rR (N k)):=by unfold tp;rw [(f9 (x:=N k) (T.l8 hk)).2.2];rfl
theorem Jh {i k:Nat} (hk:k<7):inR (M i) (rowOf N M k)=dB N M i k:=by unfold inR dB;rw [(f9 (x:=N k) (T.l8 hk)).2.2];rfl
theorem Ji (hL:∀k∈L,k<7) (hl:L.length≤7):iA (L.map (rowOf N M)) where
 ok r hr:=by obtain ⟨k,hk,rfl⟩:=List.mem_map.mp hr;exact (f9 (T.l8 (hL k hk))).1
 len:=by rw [List.length_map];exact hl
 inj r hr r' hr' e:=by obtain ⟨k,hk,rfl⟩:=List.mem_map.mp hr;obtain ⟨k',hk',rfl⟩:=List.mem_map.mp hr';have:k=k':=T.inj (hL k hk) (hL k' hk') e;rw [this]
 I4 r hr:=by obtain ⟨k,hk,rfl⟩:=List.mem_map.mp hr;rw [p8 T (hL k hk)];exact (rq _ (T.l8 (hL k hk)) _ (nt _)).1
 cons r hr r' hr':=by obtain ⟨k,hk,rfl⟩:=List.mem_map.mp hr;obtain ⟨k',hk',rfl⟩:=List.mem_map.mp hr';rw [p8 T (hL k' hk')];obtain ⟨j,hj,e⟩:=T.top (rR (N k')) k' (hL k' hk');rw [e];exact T.cons (hL k hk) hj
 own r hr:=by obtain ⟨k,hk,rfl⟩:=List.mem_map.mp hr;have h64:=T.l8 (hL k hk);obtain ⟨t1,t2,t3⟩:=rq _ h64 _ (nt (N k));unfold inR;rw [p8 T (hL k hk),(f9 (x:=N k) h64).2.2];refine decide_eq_true ?_;unfold dst;show (pc (M k):Int)+(pc (fL (M k) (rR (N k))):Int)-2*(pc (M k &&& fL (M k) (rR (N k))):Int)≤_;exact VJ t2 t3
 core r hr:=by obtain ⟨k,hk,rfl⟩:=List.mem_map.mp hr;exact (f9 (T.l8 (hL k hk))).2.1
theorem EA (hL:∀k∈L,k<7) (hl:L.length≤7) (ha:∀k,k<7→k∈L):
  ∃t H,rJ (dB N M) t H∧(lv ai 100 5).f 23 [.str (aB (L.map (rowOf N M)))] []=some (.tup [.lst (H.map fun h=>.str (bf (M (t h)))),.lst (H.map fun h=>.str (bf (M h))),.str (aB (L.map fun k=>{rowOf N M k with dead:=true}))]):=by
 have S:=Ji (N:=N) T hL hl
 obtain ⟨d,Hr,hf,I⟩:=I5 S (by
  intro r hr;obtain ⟨k,hk,rfl⟩:=List.mem_map.mp hr
  rfl)
 obtain ⟨H,h1,h2⟩:=nB (f:=rowOf N M) (p:=fun k=>k<7) Hr (by
  intro b hb;obtain ⟨k,hk,e⟩:=List.mem_map.mp (I.hin b hb).1
  exact ⟨k,hL k hk,e.symm⟩)
 subst h2;have ht:∀k,∃j,k<7→j<7∧fL (M k) (rR (N k))=M j:=by
  intro k
  by_cases hk:k<7
  ·obtain ⟨j,h1,h2⟩:=T.top (rR (N k)) k hk;exact ⟨j,fun _=>⟨h1,h2⟩⟩
  ·exact ⟨0,fun q=>absurd q hk⟩
 let t:Nat→Nat:=fun k=>Classical.choose (ht k)
 have RZ:∀k,k<7→t k<7∧fL (M k) (rR (N k))=M (t k):=fun k hk=>Classical.choose_spec (ht k) hk
 clear_value t
 have htp:∀k,k<7→tp (rowOf N M k)=M (t k):=fun k hk=>(p8 T hk).trans (RZ k hk).2;have hin:∀k j,k<7→j<7→inR (tp (rowOf N M k)) (rowOf N M j)=dB N M (t k) j:=fun k j hk hj=>by rw [htp k hk,Jh T hj]
 have hown:∀h,h<7→dB N M (t h) h=true:=by intro h hh;rw [←hin h h hh hh];exact S.own _ (List.mem_map.mpr ⟨h,ha h hh,rfl⟩)
 have HX:∀k,k<7→d (rowOf N M k)=true:=by
  intro k hk;rcases I.all _ (List.mem_map.mpr ⟨k,ha k hk,rfl⟩) with q|q
  ·exact q
  ·simp at q
 refine ⟨t,H,⟨h1,fun h hh=>(RZ h (h1 h hh)).1,fun h hh=>hown h (h1 h hh),?_,?_⟩,?_⟩
 ·intro j hj;obtain ⟨r,k1,k2⟩:=I.HT _ (List.mem_map.mpr ⟨j,ha j hj,rfl⟩) (HX j hj);obtain ⟨h,k3,rfl⟩:=List.mem_map.mp k1;exact ⟨h,k3,by rw [←hin h j (h1 h k3) hj];exact k2⟩
 ·have hp:=List.pairwise_map.mp I.par;refine List.Pairwise.imp_of_mem ?_ hp;rintro p q hp hq ⟨q1,q2⟩ v hv ⟨n1,n2⟩;have HY:=h1 p hp;have R0:=h1 q hq;rw [hin p q HY R0] at q1;rw [p8 T HY,p8 T R0] at q2;unfold dB at q1 n1 n2;rw [←(RZ p HY).2] at q1;have cc:∀i j,i<7→j<7→Cons (M i) (M j):=fun i j hi hj=>T.cons hi hj;have t7:=(RZ p HY).1;have te:=(RZ p HY).2;exact greedy (T.l8 HY) (T.l8 R0) (T.l8 hv) (nt (N p)) (nt (N q)) (by rw [te];exact cc _ _ HY t7) (cc _ _ hv HY) (cc _ _ R0 hv) (by rw [te];exact cc _ _ hv t7) (by rw [te];exact cc _ _ R0 t7) q2 (of_decide_eq_false q1) (of_decide_eq_true n1) (of_decide_eq_true n2)
 ·rw [hf,List.map_map,List.map_map];have e1:H.map ((fun h:Row=>V.str (bf (tp h)))∘rowOf N M)=H.map fun h=>.str (bf (M (t h))):=List.map_congr_left fun h hh=>by
   show V.str (bf (tp (rowOf N M h)))=_;rw [htp h (h1 h hh)]
  have e2:dc d (L.map (rowOf N M))=L.map fun k=>{rowOf N M k with dead:=true}:=by unfold dc;rw [List.map_map];refine List.map_congr_left fun k hk=>?_;show ({rowOf N M k with dead:=d (rowOf N M k)}:Row)=_;rw [HX k (hL k hk)]
  rw [e1,e2];rfl
end
end
section
noncomputable abbrev e66:PE:=.bin .add (.slc (.var 54) (some (.var 78)) none none) (.slc (.var 54) none (some (.var 78)) none)
noncomputable abbrev eJ:PE:=.bZ .join (.cn (.str [])) [(.comp (.bin .add (.var 79) (.var 80)) (.many [79,80]) (.var 66) none)]
noncomputable abbrev ZU:PE:=.bZ .join (.cn (.str [])) [(.comp (.bin .add (.bin .add (.var 79) (.cn (.str [35]))) (.var 80)) (.many [79,80]) (.var 66) none)]
noncomputable abbrev ZV:PE:=.comp (.bin .mod (.bin .fdiv (.idx (.var 51) (.var 49)) (.cn (.int 6))) (.cn (.int 3))) (.one 49) (.bi .range [(.cn (.int 7))]) none
noncomputable abbrev ZW:PE:=.comp (.comp (.cmp .le (.bi .len [(.bin .bxor (.idx (.var 73) (.var 21)) (.idx (.var 73) (.var 49)))]) (.idx (.var 63) (.var 49))) (.one 49) (.bi .range [(.cn (.int 7))]) none) (.one 21) (.bi .range [(.cn (.int 7))]) none
noncomputable abbrev e82:PE:=.call 25 [(.comp (.bi .sum [(.comp (.bin .pow (.cn (.int 2)) (.var 49)) (.one 49) (.bi .range [(.cn (.int 7))]) (some (.idx (.idx (.var 81) (.var 21)) (.var 49))))]) (.one 21) (.bi .range [(.cn (.int 7))]) none)]
noncomputable abbrev e83:PE:=.call 26 [(.comp (.bi .sum [(.comp (.bin .pow (.cn (.int 2)) (.var 21)) (.one 21) (.bi .range [(.cn (.int 7))]) (some (.idx (.idx (.var 81) (.var 21)) (.var 49))))]) (.one 49) (.bi .range [(.cn (.int 7))]) none)]
noncomputable abbrev ZX:PE:=.bi .min [(.comp (.idx (.var 76) (.var 35)) (.one 35) (.bi .range [(.cn (.int 128))]) (some (.cmp .eq (.idx (.var 82) (.var 35)) (.cn (.int 127)))))]
noncomputable abbrev ZY:PE:=.bi .max [(.comp (.idx (.var 76) (.var 35)) (.one 35) (.bi .range [(.cn (.int 128))]) (some (.cmp .ge (.idx (.var 83) (.var 35)) (.cn (.int 0)))))]
theorem p9:∀l:List (List Nat),cu [] l=l.flatten
 |[]=>rfl
 |[x]=>by simp [cu]
 |x::y::r=>by
  rw [cu,p9 (y::r)]
  ·simp
  ·simp
section
variable {C:Calls} {m:ao}
theorem ud {L:List α} {a b g:α→V} (hxy:y≠x) (hit:ev C m it=some (.lst (L.map fun k=>.tup [a k,b k]))) (hx:∀ys,ah m x≠some (.own ys)) (hy:∀ys,ah m y≠some (.own ys))
  (hel:∀k∈L,ev C (ak (ak m x (.fz (a k))) y (.fz (b k))) elt=some (g k)):ev C m (.comp elt (.many [x,y]) it none)=some (.lst (L.map g)):=by
 rw [zE,hit];simp only [Option.bind_some,cO];rw [kP (e:=fun k=>.tup [a k,b k]) (g:=g)]
 ·rfl
 ·intro k hk;refine bb (x:=bQ m (.many [x,y]) _) (Bu hx hy hxy) ?_;simp only [LW,IE,Option.bind_some,hel k hk];rfl
theorem yE {l:List (List Nat)} (h:ev C m e=some (.lst (l.map .str))) (hl:l.flatten.length<1000000):ev C m (.bZ .join (.cn (.str [])) [e])=some (.str l.flatten):=by rw [Ru,ay,jR,h,jO];show (bJ _).bind _=_;rw [cB];simp only [Option.bind_some,List.length_nil,Nat.mul_zero,Nat.add_zero];rw [if_pos (by rw [ck,←List.length_flatten];exact Nat.ble_eq.mpr (Qw hl)),p9]
theorem R1 {row:Nat→Row} (h:ah m 66=some (.fz (.lst (L.map fun k=>mh (row k))))) (h1:∀ys,ah m 79≠some (.own ys)) (h2:∀ys,ah m 80≠some (.own ys))
  (hr:∀k∈L,(row k).w.length<3∧(row k).core.length<1000∧(row k).dead=false) (hl:L.length≤7):ev C m eJ=some (.str (aB (L.map row))):=by
 have e:aB (L.map row)=(L.map fun k=>(row k).w++((row k).core++[10])).flatten:=by unfold aB;rw [List.flatMap_def,List.map_map];congr 1;refine List.map_congr_left fun k hk=>?_;show (row k).text=_;unfold Row.text;rw [(hr k hk).2.2];rfl
 have hlen:=iT (L.map row) (by
  intro r hr';obtain ⟨k,hk,rfl⟩:=List.mem_map.mp hr'
  exact ⟨(hr k hk).1,(hr k hk).2.1⟩)
 rw [List.length_map] at hlen;rw [e] at hlen⊢;refine yE ?_ (HH hl hlen)
 have:=ud (C:=C) (m:=m) (x:=79) (y:=80) (it:=.var 66) (elt:=.bin .add (.var 79) (.var 80)) (L:=L) (a:=fun k=>.str (row k).w) (b:=fun k=>.str ((row k).core++[10])) (g:=fun k=>.str ((row k).w++((row k).core++[10]))) (by decide) (aa h) h1 h2 (by
  intro k hk;have:=hr k hk
  exact add_str (aa (by rw [cE,au])) (aa (au ..)) (by rw [List.length_append,List.length_singleton];omega))
 rw [this,List.map_map];rfl
theorem Jj {row:Nat→Row} (h:ah m 66=some (.fz (.lst (L.map fun k=>mh (row k))))) (h1:∀ys,ah m 79≠some (.own ys)) (h2:∀ys,ah m 80≠some (.own ys))
  (hr:∀k∈L,(row k).w.length<3∧(row k).core.length<1000∧(row k).dead=false) (hl:L.length≤7):ev C m ZU=some (.str (aB (L.map fun k=>{row k with dead:=true}))):=by
 have e:aB (L.map fun k=>{row k with dead:=true})=(L.map fun k=>((row k).w++[35])++((row k).core++[10])).flatten:=by unfold aB;rw [List.flatMap_def,List.map_map];congr 1;refine List.map_congr_left fun k hk=>?_;show (row k).w++(if true=true then 35::((row k).core++[10]) else (row k).core++[10])=_;simp
 have hlen:=iT (L.map fun k=>{row k with dead:=true}) (by
  intro r hr';obtain ⟨k,hk,rfl⟩:=List.mem_map.mp hr'
  exact ⟨(hr k hk).1,(hr k hk).2.1⟩)
 rw [List.length_map] at hlen;rw [e] at hlen⊢;refine yE ?_ (HH hl hlen)
 have:=ud (C:=C) (m:=m) (x:=79) (y:=80) (it:=.var 66) (elt:=.bin .add (.bin .add (.var 79) (.cn (.str [35]))) (.var 80)) (L:=L) (a:=fun k=>.str (row k).w) (b:=fun k=>.str ((row k).core++[10])) (g:=fun k=>.str (((row k).w++[35])++((row k).core++[10]))) (by decide) (aa h) h1 h2 (by
  intro k hk;have:=hr k hk
  exact add_str (add_str (aa (by rw [cE,au])) (ay (v:=.str [35])) (by rw [List.length_singleton];omega)) (aa (au ..)) (by simp only [List.length_append,List.length_singleton];omega))
 rw [this,List.map_map];rfl
theorem B8 {a b:Int} {r t:List Int} (h:(pn (a::r) (b::t)).length≤7):jx .bxor (.cI (a::r)) (.cI (b::t))=some (.cI (pn (a::r) (b::t))):=by unfold pn at h⊢;rw [List.length_append] at h;exact if_pos (decide_eq_true h)
theorem EB {a b:Nat} (h:(pn (yw a) (yw b)).length≤7):jx .bxor (wy a) (wy b)=some (.cI (pn (yw a) (yw b))):=B8 h
theorem Jk {N:Nat→Int} (h:ah m 51=some (.fz (lr 7 fun k=>.int (N k)))) (h1:∀ys,ah m 49≠some (.own ys)):ev C m ZV=some (lr 7 fun k=>nI (rR (N k))):=by refine fu (v:=.jM 0 7) (L:=List.range 7) (mX ay rfl) nj h1 ?_;intro k hk i hi;have pg:=List.mem_range.mp hk;obtain ⟨r,r1,r2⟩:=UH (C:=C) (m:=ak m 49 (.fz (.int i))) (e:=.idx (.var 51) (.var 49)) (a:=6) (b:=3) (n:=3) (aZ (aa (mC h)) (aa (au ..)) (cD (g:=fun k=>.int (N k)) hi pg (by decide))) (by decide) (by decide) rfl (by decide);rw [r1,r2];rfl
theorem Jl {N:Nat→Int} (hM:∀k,k<7→M k<64) (UD:ah m 73=some (.fz (lr 7 fun k=>wy (M k)))) (h63:ah m 63=some (.fz (lr 7 fun k=>nI (rR (N k))))) (h1:∀ys,ah m 49≠some (.own ys)) (h2:∀ys,ah m 21≠some (.own ys)):
  ev C m ZW=some (lr 7 fun i=>lr 7 fun j=>.bool (dB N M i j)):=by
 refine fu (v:=.jM 0 7) (L:=List.range 7) (mX ay rfl) nj h2 ?_;intro k hk i hi;have pg:=List.mem_range.mp hk;refine fu (v:=.jM 0 7) (L:=List.range 7) (mX ay rfl) nj (by rw [cE];exact h1) ?_;intro k' hk' j hj;have Jm:=List.mem_range.mp hk';generalize hm2:ak (ak m 21 (.fz (.int i))) 49 (.fz (.int j))=m2;have yv:ah m2 49=some (.fz (.int j)):=DX hm2;have L0:ah m2 21=some (.fz (.int i)):=Uq hm2;have RS:ah m2 73=some (.fz (lr 7 fun k=>wy (M k))):=AS hm2 UD;have RO:ah m2 63=some (.fz (lr 7 fun k=>nI (rR (N k)))):=AS hm2 h63;obtain ⟨x1,x2⟩:=Jg (hM k pg) (hM k' Jm);have zK:ev C m2 (.bi .len [(.bin .bxor (.idx (.var 73) (.var 21)) (.idx (.var 73) (.var 49)))])=some (.int (dst (M k') (M k))):=
  mX (aF (aZ (aa RS) (aa L0) (cD (g:=fun k=>wy (M k)) hi pg (by decide))) (aZ (aa RS) (aa yv) (cD (g:=fun k=>wy (M k)) hj Jm (by decide))) (EB x2)) (by
   show some (V.int ((pn (yw (M k)) (yw (M k'))).length:Int))=_
   rw [x1])
 rw [Wi,zK,aZ (aa RO) (aa yv) (cD (g:=fun k=>nI (rR (N k))) hj Jm (by decide))];rfl
theorem Jo (WW:ah m 81=some (.fz (lr 7 fun i=>lr 7 fun j=>.bool (near i j)))) (h1:∀ys,ah m 49≠some (.own ys)) (h2:∀ys,ah m 21≠some (.own ys)):
  ev C m (.comp (.bi .sum [(.comp (.bin .pow (.cn (.int 2)) (.var 49)) (.one 49) (.bi .range [(.cn (.int 7))]) (some (.idx (.idx (.var 81) (.var 21)) (.var 49))))]) (.one 21) (.bi .range [(.cn (.int 7))]) none)=some (.lst (((List.range 7).map fun i=>iC fun j=>near i j).map nI)):=by
 rw [List.map_map];refine fu (v:=.jM 0 7) (L:=List.range 7) (mX ay rfl) nj h2 ?_;intro k hk i hi;have pg:=List.mem_range.mp hk;refine mX (jW (v:=.jM 0 7) (L:=List.range 7) (p:=fun j=>near k j) (g:=fun k=>nI (2^k)) (mX ay rfl) nj (by rw [cE];exact h1) ?_ ?_) (wk _)
 ·intro k' hk' j hj;rw [Zi,aZ (aa (mC (mC WW))) (aa (by rw [cE,au])) (cD (g:=fun i=>lr 7 fun j=>.bool (near i j)) hi pg (by decide)),aa (au ..)];simp only [Option.bind_some];rw [cD (g:=fun j=>.bool (near k j)) hj (List.mem_range.mp hk') (by decide)];rfl
 ·intro k' hk' _ j hj;exact aF ay (aa (au ..)) (wm (List.mem_range.mp hk') hj)
theorem EC (WW:ah m 81=some (.fz (lr 7 fun i=>lr 7 fun j=>.bool (near i j)))) (h1:∀ys,ah m 49≠some (.own ys)) (h2:∀ys,ah m 21≠some (.own ys)):
  ev C m (.comp (.bi .sum [(.comp (.bin .pow (.cn (.int 2)) (.var 21)) (.one 21) (.bi .range [(.cn (.int 7))]) (some (.idx (.idx (.var 81) (.var 21)) (.var 49))))]) (.one 49) (.bi .range [(.cn (.int 7))]) none)=some (.lst (((List.range 7).map fun j=>iC fun i=>near i j).map nI)):=by
 rw [List.map_map];refine fu (v:=.jM 0 7) (L:=List.range 7) (mX ay rfl) nj h1 ?_;intro k hk i hi;have pg:=List.mem_range.mp hk;refine mX (jW (v:=.jM 0 7) (L:=List.range 7) (p:=fun j=>near j k) (g:=fun k=>nI (2^k)) (mX ay rfl) nj (by rw [cE];exact h2) ?_ ?_) (wk _)
 ·intro k' hk' j hj;rw [Zi,aZ (aa (mC (mC WW))) (aa (au ..)) (cD (g:=fun i=>lr 7 fun j=>.bool (near i j)) hj (List.mem_range.mp hk') (by decide)),aa (by rw [cE,au])];simp only [Option.bind_some];rw [cD (g:=fun j=>.bool (near k' j)) hi pg (by decide)];rfl
 ·intro k' hk' _ j hj;exact aF ay (aa (au ..)) (wm (List.mem_range.mp hk') hj)
theorem j3 {op:β→α→β} {b0:β} {f:Nat→α} {e:β→V} (hc:c<128) (hi:i=(c:Int)):jf (.lst ((sub op [b0] ((List.range 7).map f)).map e)) (.int i)=some (e (((t9 7 c).map f).foldl op b0)):=by refine m8 ⟨by exact lD hi,by exact Qz hc hi⟩ ?_;have:i.toNat=c:=o4 hi;rw [this,List.getElem?_map,(BY op b0 f 7).2 c hc];rfl
theorem rK (hc:c<128) (hi:i=(c:Int)):jf (.lst ((sub Et [0] (List.range 7)).map nI)) (.int i)=some (nI (t9 7 c).length):=by have:=j3 (op:=Et) (b0:=0) (f:=fun k:Nat=>k) (e:=nI) hc hi;rw [List.map_id' (List.range 7),yC,List.length_map,Nat.zero_add] at this;exact this
theorem fold_min:∀(r:List Int) (a n:Int),n∈a::r→(∀x∈a::r,n≤x)→r.foldl (fun x y=>if y<x then y else x) a=n
 |[],a,n,h,_=>by simp at h;exact h.symm
 |b::r,a,n,h,hm=>by
  rw [List.foldl_cons];have ha:=hm a (by simp);have hb:=hm b (by simp);refine fold_min r _ n ?_ ?_
  ·rcases List.mem_cons.mp h with e|h
   ·rw [if_neg (by exact Qx hb e),e];simp
   ·rcases List.mem_cons.mp h with e|h
    ·by_cases q:b<a
     ·rw [if_pos q,e];simp
     ·rw [if_neg q];have:n=a:=Qy ha e q;rw [this];simp
    ·exact List.mem_cons_of_mem _ h
  ·intro x hx;rcases List.mem_cons.mp hx with e|hx
   ·rw [e];split <;>assumption
   ·exact hm x (by simp [hx])
theorem fold_max:∀(r:List Int) (a n:Int),n∈a::r→(∀x∈a::r,x≤n)→r.foldl (fun x y=>if x<y then y else x) a=n
 |[],a,n,h,_=>by simp at h;exact h.symm
 |b::r,a,n,h,hm=>by
  rw [List.foldl_cons];have ha:=hm a (by simp);have hb:=hm b (by simp);refine fold_max r _ n ?_ ?_
  ·rcases List.mem_cons.mp h with e|h
   ·rw [if_neg (by exact QA hb e),e];simp
   ·rcases List.mem_cons.mp h with e|h
    ·by_cases q:a<b
     ·rw [if_pos q,e];simp
     ·rw [if_neg q];have:n=a:=QC ha e q;rw [this];simp
    ·exact List.mem_cons_of_mem _ h
  ·intro x hx;rcases List.mem_cons.mp hx with e|hx
   ·rw [e];split <;>assumption
   ·exact hm x (by simp [hx])
theorem wu {f:Nat→Nat} {n:Nat} (h:∃c∈L,f c=n) (hm:∀c∈L,n≤f c):v7 .min [.lst (L.map fun c=>nI (f c))]=some (nI n):=by
 have e:L.map (fun c=>nI (f c))=(L.map fun c=>(f c:Int)).map .int:=by rw [List.map_map];rfl
 rw [e];show jm _ _ _=_;unfold jm;rw [fZ];obtain ⟨c,h1,h2⟩:=h;have hin:(n:Int)∈L.map fun c=>(f c:Int):=List.mem_map.mpr ⟨c,h1,by rw [h2]⟩;have hall:∀x∈L.map fun c=>(f c:Int),(n:Int)≤x:=by intro x hx;obtain ⟨d,k1,rfl⟩:=List.mem_map.mp hx;have:=hm d k1;exact HJ this
 generalize L.map (fun c=>(f c:Int))=xs at hin hall;cases xs with
 |nil=>simp at hin
 |cons a r=> simp only [decide_eq_true_eq];rw [fold_min r a n hin hall]
theorem wz {f:Nat→Nat} {n:Nat} (h:∃c∈L,f c=n) (hm:∀c∈L,f c≤n):v7 .max [.lst (L.map fun c=>nI (f c))]=some (nI n):=by
 have e:L.map (fun c=>nI (f c))=(L.map fun c=>(f c:Int)).map .int:=by rw [List.map_map];rfl
 rw [e];show jm _ _ _=_;unfold jm;rw [fZ];obtain ⟨c,h1,h2⟩:=h;have hin:(n:Int)∈L.map fun c=>(f c:Int):=List.mem_map.mpr ⟨c,h1,by rw [h2]⟩;have hall:∀x∈L.map fun c=>(f c:Int),x≤(n:Int):=by intro x hx;obtain ⟨d,k1,rfl⟩:=List.mem_map.mp hx;have:=hm d k1;exact HJ this
 generalize L.map (fun c=>(f c:Int))=xs at hin hall;cases xs with
 |nil=>simp at hin
 |cons a r=> simp only [decide_eq_true_eq];rw [fold_max r a n hin hall]
theorem B9:v7 .range [.int 128]=some (.jM 0 128):=rfl
theorem Jp {t:Nat→Nat} {H:List Nat} (B:rJ near t H) (WX:ah m 76=some (.fz (.lst ((sub Et [0] (List.range 7)).map nI)))) (h82:ah m 82=some (.fz (.lst ((sub Es [0] ((List.range 7).map fun i=>iC fun j=>near i j)).map nI)))) (h1:∀ys,ah m 35≠some (.own ys)):
  ev C m ZX=some (nI H.length):=by
 refine mX (jW (v:=.jM 0 128) (L:=List.range 128) (p:=fun c=>decide (((t9 7 c).map fun i=>iC fun j=>near i j).foldl Es 0=127)) (g:=fun c=>nI (t9 7 c).length) (mX ay B9) BL h1 ?_ ?_) (wu ?_ ?_)
 ·intro c hc i hi;refine aU (aZ (aa (mC h82)) (aa (au ..)) (j3 (List.mem_range.mp hc) hi)) ay ?_;generalize ((t9 7 c).map fun i=>iC fun j=>near i j).foldl Es 0=z;show some ((z:Int)==127)=_;congr 1
  by_cases q:z=127
  ·subst q;rfl
  ·rw [decide_eq_false q,beq_eq_false_iff_ne];exact QB q
 ·intro c hc _ i hi;exact aZ (aa (mC WX)) (aa (au ..)) (rK (List.mem_range.mp hc) hi)
 ·obtain ⟨p1,p2⟩:=B.B6;refine ⟨iC fun k=>(H.map t).contains k,List.mem_filter.mpr ⟨List.mem_range.mpr (jA _),decide_eq_true ?_⟩,by rw [jY];exact p2⟩;rw [kQ,jY];exact p1
 ·intro c hc;obtain ⟨c1,c2⟩:=List.mem_filter.mp hc;exact B.ua (fun i hi=>(yy.mp hi).1) ((kQ near _).mp (of_decide_eq_true c2))
theorem Jq {t:Nat→Nat} {H:List Nat} (B:rJ near t H) (WX:ah m 76=some (.fz (.lst ((sub Et [0] (List.range 7)).map nI)))) (h83:ah m 83=some (.fz (.lst ((sub BQ [some 0] ((List.range 7).map fun j=>iC fun i=>near i j)).map oI)))) (h1:∀ys,ah m 35≠some (.own ys)):
  ev C m ZY=some (nI H.length):=by
 refine mX (jW (v:=.jM 0 128) (L:=List.range 128) (p:=fun c=>(((t9 7 c).map fun j=>iC fun i=>near i j).foldl BQ (some 0)).isSome) (g:=fun c=>nI (t9 7 c).length) (mX ay B9) BL h1 ?_ ?_) (wz ?_ ?_)
 ·intro c hc i hi;refine aU (aZ (aa (mC h83)) (aa (au ..)) (j3 (List.mem_range.mp hc) hi)) ay ?_;generalize ((t9 7 c).map fun j=>iC fun i=>near i j).foldl BQ (some 0)=z;cases z with
  |none=>rfl
  |some z=> show some (decide ((0:Int)≤(z:Int)))=_;rw [decide_eq_true (by exact HK)];rfl
 ·intro c hc _ i hi;exact aZ (aa (mC WX)) (aa (au ..)) (rK (List.mem_range.mp hc) hi)
 ·obtain ⟨p1,p2⟩:=B.B7;refine ⟨iC fun k=>H.contains k,List.mem_filter.mpr ⟨List.mem_range.mpr (jA _),?_⟩,by rw [jY];exact p2⟩;show Option.isSome _=true;rw [nv,jY];exact p1
 ·intro c hc;obtain ⟨c1,c2⟩:=List.mem_filter.mp hc;exact B.yD (fun i hi=>(yy.mp hi).1) ((nv near _).mp c2)
end
end
section
theorem ED {C:Calls} {z:Nat} {w:V} (h:ev C m e=some (.tup [u,v,w])) (hx:∀ys,ah m x≠some (.own ys)) (hy:∀ys,ah m y≠some (.own ys)) (hz:∀ys,ah m z≠some (.own ys)) (hxy:y≠x) (hxz:z≠x) (hyz:z≠y):
  ex C K (.l6 [x,y,z] e) m=some (.next,ak (ak (ak m x (.fz u)) y (.fz v)) z (.fz w)):=bb (gp h) (by
 show (fq m [x,y,z] [u,v,w]).map _=_
 rw [Bv hx hy hz hxy hxz hyz];rfl)
theorem rM {C:Calls} (h1:ev C m a=some (.bool true)) (h2:ev C m b=some v):ev C m (.and a b)=some v:=bb h1 h2
theorem mD {C:Calls} {op:Cp} {x y:V} {z:Bool} (h1:ev C m a=some x) (h2:ev C m b=some y) (h3:o5 op x y=some z):ev C m (.cmp op a b)=some (.bool z):=bb h1 (bb h2 (by rw [h3];rfl))
theorem Jr {s:List V} (h:bT i):jg (.lst s) (some (.int i)) none none=some (.lst (s.drop i.toNat)):=(Bw (cA h) rfl).trans (by rw [IJ])
theorem Js {s:List V} (h:bT i):jg (.lst s) none (some (.int i)) none=some (.lst (s.take i.toNat)):=Bw (l:=none) rfl (cA h)
theorem yF (T:Tree A M) {H:List Nat} (f:Nat→Nat) (hf:∀h∈H,f h<7):t9 7 (iC fun k=>(H.map fun h=>bf (M (f h))).contains (bf (M k)))=(List.range 7).filter fun k=>(H.map f).contains k:=by
 rw [jY];refine List.filter_congr fun k hk=>?_;have pg:=List.mem_range.mp hk;rw [Bool.eq_iff_iff,List.contains_iff_mem,List.contains_iff_mem,List.mem_map,List.mem_map];constructor
 ·rintro ⟨h,h1,h2⟩;exact ⟨h,h1,T.inj (hf h h1) pg (rg (T.l8 (hf h h1)) (T.l8 pg) h2)⟩
 ·rintro ⟨h,h1,h2⟩;exact ⟨h,h1,by rw [h2]⟩
structure Px where
 l:List Int
 N:Nat→Int
 A:Nat→Nat
 M:Nat→Nat
 c:Int
 L:List Nat
 t:Nat→Nat
 H:List Nat
 T:Tree A M
 hN:(lv ai 100 5).f 15 [.lst (l.map .int)] []=some (lr 7 fun k=>.int (N k))
 hA:(lv ai 100 5).f 16 [lr 7 fun k=>.int (N k)] []=some (lr 7 fun k=>.int (A k:Int))
 hc:(l.length:Int).fmod 7=c
 ci:bT c
 hL:L=(List.range 7).drop c.toNat++(List.range 7).take c.toNat
 L7:∀k∈L,k<7
 Ll:L.length≤7
 B:rJ (dB N M) t H
 h23:(lv ai 100 5).f 23 [.str (aB (L.map (rowOf N M)))] []=some (.tup [.lst (H.map fun h=>.str (bf (M (t h)))),.lst (H.map fun h=>.str (bf (M h))),.str (aB (L.map fun k=>{rowOf N M k with dead:=true}))])
namespace Px
noncomputable def C:Calls:=lv ai 100 5
noncomputable def vR (X:Px):V:=lr 7 fun k=>mh (rowOf X.N X.M k)
noncomputable def vL (X:Px):V:=.lst (X.L.map fun k=>mh (rowOf X.N X.M k))
noncomputable def P1 (X:Px) (k:Nat):Bool:=(X.H.map fun h=>bf (X.M (X.t h))).contains (bf (X.M k))
noncomputable def P2 (X:Px) (k:Nat):Bool:=(X.H.map fun h=>bf (X.M h)).contains (bf (X.M k))
noncomputable def W1 (X:Px) (i:Nat):Nat:=iC fun j=>dB X.N X.M i j
noncomputable def W2 (X:Px) (j:Nat):Nat:=iC fun i=>dB X.N X.M i j
noncomputable def v67 (X:Px):V:=.lst (X.H.map fun h=>.str (bf (X.M (X.t h))))
noncomputable def v68 (X:Px):V:=.lst (X.H.map fun h=>.str (bf (X.M h)))
noncomputable def v59 (X:Px):V:=.str (aB (X.L.map fun k=>{rowOf X.N X.M k with dead:=true}))
noncomputable def n (X:Px):V:=nI X.H.length
noncomputable def all (X:Px):List (Nat×V):=[(50,.lst (X.l.map .int)),(51,lr 7 fun k=>.int (X.N k)),(53,lr 7 fun k=>.int (X.A k:Int)),(52,lr 7 fun k=>.str (bf (X.M k))),(54,X.vR),(78,.int X.c),(66,X.vL),(67,X.v67),(68,X.v68),(59,X.v59),(73,lr 7 fun k=>wy (X.M k)),(63,lr 7 fun k=>nI (rR (X.N k))),(81,lr 7 fun i=>lr 7 fun j=>.bool (dB X.N X.M i j)),(82,.lst ((sub Es [0] ((List.range 7).map X.W1)).map nI)),(83,.lst ((sub BQ [some 0] ((List.range 7).map X.W2)).map oI)),(76,.lst ((sub Et [0] (List.range 7)).map nI)),(84,X.n),(85,X.n),(86,nI (iC X.P1)),(87,nI (iC X.P2))]
noncomputable def st (X:Px) (k:Nat):ao:=(X.all.take k).map fun p=>(p.1,.fz p.2)
theorem stp {C:Calls} {m':ao} (h:ev C m e=some v) (hs:ah m x=none) (hm:ak m x (.fz v)=m'):ex C K (.asg x e) m=some (.next,m'):=hm▸aD h (bh hs)
variable (X:Px)
theorem WY:∀k,k<7→X.M k<64:=fun _ hk=>X.T.l8 hk
theorem row:∀k∈X.L,(rowOf X.N X.M k).w.length<3∧(rowOf X.N X.M k).core.length<1000∧(rowOf X.N X.M k).dead=false:=fun k hk=>
 have r:=f9 (x:=X.N k) (X.WY k (X.L7 k hk))
 ⟨r.1.w2,r.2.1,rfl⟩
theorem s78:ex C 100 (.asg 78 (.bin .mod (.bi .len [(.var 50)]) (.cn (.int 7)))) (X.st 5)=some (.next,X.st 6):= stp (aF (mX (aa rfl) rfl) ay (show some (V.int (((X.l.map V.int).length:Int).fmod 7))=some (V.int X.c) by rw [List.length_map,X.hc])) rfl rfl
theorem e1:ev C (X.st 6) (.slc (.var 54) (some (.var 78)) none none)=some (.lst (((List.range 7).map fun k=>mh (rowOf X.N X.M k)).drop X.c.toNat)):=Jr X.ci
theorem e2:ev C (X.st 6) (.slc (.var 54) none (some (.var 78)) none)=some (.lst (((List.range 7).map fun k=>mh (rowOf X.N X.M k)).take X.c.toNat)):=Js X.ci
theorem cat (a b:List V) (h:a++b=X.L.map fun k=>mh (rowOf X.N X.M k)):jx .add (.lst a) (.lst b)=some X.vL:=by have:=congrArg List.length h;rw [List.length_map,List.length_append] at this;exact (if_pos (Nat.ble_eq.mpr (by rw [this];exact Nat.le_trans X.Ll (by decide)))).trans (congrArg (some<|V.lst ·) h)
theorem s66:ex C 100 (.asg 66 e66) (X.st 6)=some (.next,X.st 7):= stp (aF X.e1 X.e2 (X.cat _ _ (by rw [X.hL,List.map_append,List.map_drop,List.map_take]))) rfl rfl
theorem s67:ex C 100 (.l6 [67,68,59] (.call 23 [eJ])) (X.st 7)=some (.next,X.st 10):= ED ((iw (R1 (row:=rowOf X.N X.M) rfl (bh rfl) (bh rfl) X.row X.Ll)).trans X.h23) (bh rfl) (bh rfl) (bh rfl) (by decide) (by decide) (by decide)
theorem s63:ex C 100 (.asg 63 ZV) (X.st 11)=some (.next,X.st 12):=stp (Jk (N:=X.N) rfl (bh rfl)) rfl rfl
theorem s81:ex C 100 (.asg 81 ZW) (X.st 12)=some (.next,X.st 13):=stp (Jl X.WY rfl rfl (bh rfl) (bh rfl)) rfl rfl
theorem s82:ex C 100 (.asg 82 e82) (X.st 13)=some (.next,X.st 14):= stp ((iw (Jo rfl (bh rfl) (bh rfl))).trans (Ja (by rw [List.length_map,List.length_range];decide))) rfl rfl
theorem s83:ex C 100 (.asg 83 e83) (X.st 14)=some (.next,X.st 15):= stp ((iw (EC rfl (bh rfl) (bh rfl))).trans (Jb (by rw [List.length_map,List.length_range];decide))) rfl rfl
theorem s84:ex C 100 (.asg 84 ZX) (X.st 16)=some (.next,X.st 17):=stp (Jp X.B rfl rfl (bh rfl)) rfl rfl
theorem s85:ex C 100 (.asg 85 ZY) (X.st 17)=some (.next,X.st 18):=stp (Jq X.B rfl rfl (bh rfl)) rfl rfl
theorem s86:ex C 100 (.asg 86 (.call 28 [(.var 67),(.var 52)])) (X.st 18)=some (.next,X.st 19):=by have:=BU (n:=4) (ps:=X.H.map fun h=>bf (X.M (X.t h))) (T:=fun k=>bf (X.M k));rw [List.map_map] at this;exact stp ((call2 (aa rfl) (aa rfl)).trans this) rfl rfl
theorem s87:ex C 100 (.asg 87 (.call 28 [(.var 68),(.var 52)])) (X.st 19)=some (.next,X.st 20):=by have:=BU (n:=4) (ps:=X.H.map fun h=>bf (X.M h)) (T:=fun k=>bf (X.M k));rw [List.map_map] at this;exact stp ((call2 (aa rfl) (aa rfl)).trans this) rfl rfl
theorem o1:t9 7 (iC X.P1)=(List.range 7).filter fun k=>(X.H.map X.t).contains k:=yF X.T X.t X.B.t7
theorem o2:t9 7 (iC X.P2)=(List.range 7).filter fun k=>X.H.contains k:=by have:=yF X.T (H:=X.H) (fun h=>h) X.B.h7;rw [List.map_id' X.H] at this;exact this
theorem a1:ev C (X.st 20) (.cmp .eq (.idx (.var 82) (.var 86)) (.cn (.int 127)))=some (.bool true):=
 mD (aZ (aa rfl) (aa rfl) (j3 (jA _) rfl)) ay (by
  have:=(kQ (dB X.N X.M) (t9 7 (iC X.P1))).mpr (by rw [o1];exact X.B.B6.1)
  exact congrArg (fun z=>o5 .eq (nI z) (.int 127)) this)
theorem ge0 {z:Option Nat} (h:z.isSome=true):o5 .ge (oI z) (.int 0)=some true:=by
 cases z with
 |none=>cases h
 |some z=>exact congrArg some (decide_eq_true (Int.natCast_nonneg z))
theorem a2:ev C (X.st 20) (.cmp .ge (.idx (.var 83) (.var 87)) (.cn (.int 0)))=some (.bool true):= mD (aZ (aa rfl) (aa rfl) (j3 (jA _) rfl)) ay (ge0 ((nv (dB X.N X.M) _).mpr (by rw [o2];exact X.B.B7.1)))
theorem Cb (l:List α) (f:α→V):v7 .len [.lst (l.map f)]=some (nI l.length):=by show some (V.int ((l.map f).length:Int))=_;rw [List.length_map]
theorem R2 (z:Int):o5 .eq (.lst [.int z,.int z,.int z,.int z]) (.lst [.int z,.int z,.int z,.int z])=some true:=congrArg some (beq_self_eq_true [z,z,z,z])
theorem a3:ev C (X.st 20) (.cmp .eq (.lst [(.idx (.var 76) (.var 86)),(.idx (.var 76) (.var 87)),(.bi .len [(.var 67)]),(.bi .len [(.var 68)])]) (.lst [(.var 84),(.var 85),(.var 84),(.var 85)]))=some (.bool true):=
 mD (x:=.lst [X.n,X.n,X.n,X.n]) (y:=.lst [X.n,X.n,X.n,X.n])
  (bb (pU ((aZ (aa rfl) (aa rfl) (rK (jA _) rfl)).trans (by rw [o1,X.B.B6.2];rfl)) (pU ((aZ (aa rfl) (aa rfl) (rK (jA _) rfl)).trans (by rw [o2,X.B.B7.2];rfl)) (pU (mX (aa rfl) (Cb _ _)) (v8 (mX (aa rfl) (Cb _ _)))))) rfl) rfl (R2 _)
theorem a4:ev C (X.st 20) (.cmp .eq (.var 59) ZU)=some (.bool true):= mD (aa rfl) (Jj (row:=rowOf X.N X.M) rfl (bh rfl) (bh rfl) X.row X.Ll) (congrArg some (beq_self_eq_true _))
theorem fin:exs C 100 Zf (X.st 1)=some (.ret (.bool true),X.st 20):=
 (af (stp ((iw (aa rfl)).trans X.hN) rfl rfl)).trans<|
 (af (m':=X.st 3) (stp ((iw (aa rfl)).trans X.hA) rfl rfl)).trans<|
 (af (m':=X.st 4) (stp ((iw (aa rfl)).trans (I8 X.T)) rfl rfl)).trans<|
 (af (m':=X.st 5) (stp ((call2 (aa rfl) (aa rfl)).trans (Je X.WY)) rfl rfl)).trans<|
 (af X.s78).trans<|(af X.s66).trans<|(af X.s67).trans<|
 (af (m':=X.st 11) (stp ((iw (aa rfl)).trans (I9 X.T)) rfl rfl)).trans<|
 (af X.s63).trans<|(af X.s81).trans<|(af X.s82).trans<|(af X.s83).trans<|
 (af (m':=X.st 16) (stp (e:=.call 27 []) (Jc (n:=4)) rfl rfl)).trans<|
 (af X.s84).trans<|(af X.s85).trans<|(af X.s86).trans<|(af X.s87).trans<|
 aY (dw (rM X.a1 (rM X.a2 (rM X.a3 X.a4))))
end Px
theorem turn {n:Nat}:(∀k∈(List.range 7).drop n++(List.range 7).take n,k<7)∧((List.range 7).drop n++(List.range 7).take n).length≤7∧∀k,k<7→k∈(List.range 7).drop n++(List.range 7).take n:=by
 refine ⟨fun k hk=>?_,?_,fun k hk=>?_⟩
 ·rcases List.mem_append.mp hk with q|q
  ·exact List.mem_range.mp (List.mem_of_mem_drop q)
  ·exact List.mem_range.mp (List.mem_of_mem_take q)
 ·rw [List.length_append,Nat.add_comm,←List.length_append,List.take_append_drop];decide
 ·have:k∈(List.range 7).take n++(List.range 7).drop n:=by rw [List.take_append_drop];exact List.mem_range.mpr hk
  rcases List.mem_append.mp this with q|q
  ·exact List.mem_append_right _ q
  ·exact List.mem_append_left _ q
theorem plain (l:List Int) (_:l.length≤63):(lv ai 100 6).f 29 [.lst (l.map .int)] []=some (.bool true):=by obtain ⟨N,hN⟩:=I6 (n:=4) l;obtain ⟨A,a0,a1,hA⟩:=I7 (n:=4) N;have T:=Er a0 a1;obtain ⟨c1,c2⟩:=fm (a:=(l.length:Int)) (b:=7) (n:=7) rfl (by decide);obtain ⟨t,H,B,h23⟩:=EA (N:=N) T turn.1 turn.2.1 (turn (n:=((l.length:Int).fmod 7).toNat)).2.2;exact (congrArg outF (Px.fin ⟨l,N,A,mk A,_,_,t,H,T,hN,hA,rfl,⟨by rw [c1];exact Int.natCast_nonneg _,by rw [c1];exact OF c2⟩,rfl,turn.1,turn.2.1,B,h23⟩):)
end
end Mine.P
end
section
open PySem PySem.W
namespace Mine
variable {a l D la z lb:Addr} {its items items2:Array Value} {v:V} {x i c K f y ep mask DY:Nat} {xs xs':List V} {vs jC vs':List Value} {α β:Type} {b:Bool} {va vb:Value} {h h' h₁:Heap} {o:Obj} {Q:Value→Shared→Prop} {r it lo pe kR zL:PE} {value slice e elt iter:Expr} {R:Result→Shared→Prop} {fp Mu eL W:List Addr} {St:Nat→Heap→Prop} {t t' tb:SetTable} {A:Around} {s s₁ s':Shared} {w:World} {tk:Tok} {es es' er eb:Array (Int×Value)} {tg:Tg} {sl:Sl} {env cenv:Env} {m m' m₀:ao} {ow lJ Cc:Nat→Option Addr} {pos:Pos} {rest:List (Sem Value)} {cN:Str} {as:List PE} {outer scope:Scope} {Ex:List Str} {g:V→Option (Option V)} {oZ:Option PE} {fl:Fl} {body:List Stmt} {binds:List (Str×Value)} {owner:Array (Option Nat)} {ys:List Int} {code:Code} {stack:List Frame} {cs:List Nat}
noncomputable abbrev stN (i:Nat):Stmt:=PySem.Challenge.pw_ik0202_01.main.body.getD i default
noncomputable def UI (i j:Nat):Stmt:=match stN i with
 |.ClassDef _ _ _ b .. =>b.getD j default
 |s=>s
noncomputable def ZZ:Nat→List Str→List Value
 |_,[]=>[]
 |t,x::r=>.str x t::ZZ (t+1) r
noncomputable def eT:Obj:={cls:=.type "tuple",data:=.seq #[]}
noncomputable def rws (k:Int):List (Nat×Nat)→List Value
 |[]=>[]
 |(l,a)::r=>.int l 0::.int k 0::.ref a::rws k r
noncomputable def eF (k:Int) (l:List (Nat×Nat)):Obj:={cls:=.none,data:=.fields ⟨rws k l⟩}
noncomputable def Jt (t:Nat):Value:=.str "/claim/cut.py" t
noncomputable def qc (n q:Str) (t l c g a u:Nat) (b:Bool) (x:Value→Value):Obj:= {cls:=.type "code",data:=.fields #[.str n t,.str q (t+1),Jt (t+2),.int l 0,.int c 0,.int 0 0,.int 0 0,.int g 0,.ref a,.bool b,.int 181 0,.ref (a+1),.none,x (.ref (a+2)),x (.ref (a+3)),x (.ref (a+4)),.int u 0,.int l 0,Jt (u+1)]}
noncomputable def UJ (s:Stmt) (q:Str) (g:Nat) (pm code:Value):Data:=match s with
 |.FunctionDef n ps b _ _ _ sc _ _ _=>.func {name:=n,qualname:=q,params:=ps,body:=.stmts b,scope:=sc,globals:=g,closure:=[],defaults:=.none,kwdefaults:=.none,pyModule:=pm,code:=code}
 |_=>.fields #[]
noncomputable def nmO:Stmt→Str
 |.FunctionDef n .. =>n
 |_=>""
noncomputable def tM (a t l c g:Nat) (s:Stmt) (q:Str) (md:Value) (xs:List Str):List Obj:= [eT,eF 0 [],{cls:=.type "tuple",data:=.seq ⟨ZZ (t+3) xs⟩},eT,{cls:=.none,data:=UJ s q 0 .none .none},qc (nmO s) q t l c g a (t+3+xs.length) true id,{cls:=.type "function",data:=UJ s q 3 md (.ref (a+5))}]
noncomputable def ent (P:Params) (x:Str×Nat×Value):DictEntry:=⟨PyData.keyHash P x.1,.str x.1 x.2.1,x.2.2⟩
noncomputable def Cd (P:Params) (l:List (Str×Nat×Value)) (n:Nat):Obj:={cls:=.type "dict",data:=.dict ⟨l.map (ent P)⟩ n}
noncomputable def EE (c d:Nat) (v:Value):Obj:={cls:=.type "frame",slots:=#[some (.ref c),some (.ref 3),some (.ref d),.none,some v,.none,some (.ref 0)]}
noncomputable def R3 (n:Str) (bs mro:List Value) (ns q t u:Nat) (subs:List Value):Obj:= {cls:=.type "type",data:=.cls {name:=n,bases:=bs,mro:=mro,ns:=ns,qualname:=n,subclasses:=subs},slots:=#[some (.ref q),.none,some (.str n t),some (.str n u),some (.builtin "type.__new__"),some (.bool true)]}
noncomputable def HZ (P:Params) (m:Obj):List Obj:=[boot_o_0 P,boot_o_1 P,boot_o_2 P,m,boot_o_4 P,boot_o_5 P,boot_o_6 P,boot_o_7 P,boot_o_8 P,boot_o_9 P,boot_o_10 P]
noncomputable def R4 (P:Params):List Obj:=HZ P (Cd P [("__name__",165,.str "cpy313.tomllib._parser" 410),("__doc__",166,.none),("__package__",167,.none),("__loader__",168,.builtin "__main__.__loader__#opaque"),("__spec__",169,.none),("__annotations__",170,.ref 6),("__builtins__",171,.ref 4),("__file__",173,Jt 172),("__cached__",174,.none),("_wall",193,.ref 21),("heappush",203,.ref 28),("heappop",212,.ref 35),("_siftdown",224,.ref 42),("_siftup",237,.ref 49),("_plain_name",248,.ref 56),("ABCMeta",274,.ref 73),("_ABCLike",317,.ref 106),("_abc_plain_meta",324,.ref 115),("fspath",336,.ref 122),("_check_arg_types",349,.ref 129),("_get_sep",358,.ref 136),("join",369,.ref 143),("splitroot",378,.ref 150),("dirname",388,.ref 157),("normpath",403,.ref 164),("commonpath",409,.ref 169)] 26)++([eT,eF 0 [(1,20),(5,27),(8,34),(16,41),(27,48),(42,55),(48,62),(53,81),(68,114),(72,121),(89,128),(101,135),(106,142),(123,149),(137,156),(145,163),(170,168)],qc "<module>" "<module>" 182 1 0 0 11 185 false fun _=>.none,EE 13 3 (.str "__main__" 164)]++(tM 15 187 1 1 3 (stN 0) "_wall" (.str "__main__" 164) ["k"]++(tM 22 196 5 2 3 (stN 2) "heappush" (.str "cpy313.heapq" 194) ["heap","item"]++(tM 29 204 8 1 3 (stN 3) "heappop" (.str "cpy313.heapq" 194) ["heap","lastelt","returnitem"]++(tM 36 213 16 3 3 (stN 4) "_siftdown" (.str "cpy313.heapq" 194) ["heap","startpos","pos","newitem","parentpos","parent"]++(tM 43 225 27 2 3 (stN 5) "_siftup" (.str "cpy313.heapq" 194) ["heap","pos","endpos","startpos","newitem","childpos","rightpos"]++(tM 50 240 42 2 3 (stN 7) "_plain_name" (.str "os" 238) ["x","what","kind"]++([{cls:=.type "tuple",data:=.seq #[.type "type"]},{cls:=.type "builtin_function_or_method",data:=.fields #[.builtin "type.__prepare__",.type "type"]},Cd P [("__module__",258,.str "abc" 249),("__qualname__",260,.str "ABCMeta" 259),("__firstlineno__",262,.int 48 261),("register",270,.ref 70),("__static_attributes__",271,.ref 71)] 5,eT,eF 4 [(50,69)],qc "ABCMeta" "ABCMeta" 253 48 0 0 60 256 false fun _=>.none,EE 62 59 (.str "abc" 249)]++(tM 64 263 50 2 3 (UI 9 0) "ABCMeta.register" (.str "abc" 249) ["cls","subclass"]++([eT,Cd P [("__module__",258,.str "abc" 249),("__firstlineno__",262,.int 48 261),("register",270,.ref 70),("__static_attributes__",271,.ref 71),("__doc__",272,.none)] 2,R3 "ABCMeta" [.type "type"] [.ref 73,.type "type",.type "object"] 72 57 251 259 [.ref 106],{cls:=.type "super",data:=.fields #[.ref 73,.ref 73,.ref 73]},{cls:=.type "builtin_function_or_method",data:=.fields #[.builtin "object.__init_subclass__",.ref 73]}]++([{cls:=.type "tuple",data:=.seq #[.ref 73]},{cls:=.type "builtin_function_or_method",data:=.fields #[.builtin "type.__prepare__",.type "type"]},Cd P [("__module__",284,.str "collections.abc" 275),("__qualname__",286,.str "_ABCLike" 285),("__firstlineno__",288,.int 53 287),("__instancecheck__",297,.ref 89),("__subclasscheck__",305,.ref 96),("register",313,.ref 103),("__static_attributes__",314,.ref 104)] 7,eT,eF 4 [(55,88),(61,95),(66,102)],qc "_ABCLike" "_ABCLike" 279 53 0 0 79 282 false fun _=>.none,EE 81 78 (.str "collections.abc" 275)]++(tM 83 289 55 2 3 (UI 11 0) "_ABCLike.__instancecheck__" (.str "collections.abc" 275) ["cls","instance","C"]++(tM 90 298 61 2 3 (UI 11 1) "_ABCLike.__subclasscheck__" (.str "collections.abc" 275) ["cls","C"]++(tM 97 306 66 2 3 (UI 11 2) "_ABCLike.register" (.str "collections.abc" 275) ["cls","subclass"]++([eT,Cd P [("__module__",284,.str "collections.abc" 275),("__firstlineno__",288,.int 53 287),("__instancecheck__",297,.ref 89),("__subclasscheck__",305,.ref 96),("register",313,.ref 103),("__static_attributes__",314,.ref 104),("__doc__",315,.none)] 2,R3 "_ABCLike" [.ref 73] [.ref 106,.ref 73,.type "type",.type "object"] 105 76 277 285 [],{cls:=.type "super",data:=.fields #[.ref 106,.ref 106,.ref 106]},{cls:=.type "builtin_function_or_method",data:=.fields #[.builtin "object.__init_subclass__",.ref 106]}]++(tM 109 318 68 1 3 (stN 12) "_abc_plain_meta" (.str "collections.abc" 275) ["C"]++(tM 116 327 72 1 3 (stN 14) "fspath" (.str "os" 325) ["path","kind","hook","given"]++(tM 123 339 89 1 7 (stN 16) "_check_arg_types" (.str "cpy313.genericpath" 337) ["funcname","args","hasstr","hasbytes","s"]++(tM 130 352 101 1 3 (stN 18) "_get_sep" (.str "cpy313.posixpath" 350) ["path"]++(tM 137 359 106 1 7 (stN 19) "join" (.str "cpy313.posixpath" 350) ["a","p","sep","path","b"]++(tM 144 370 123 1 3 (stN 20) "splitroot" (.str "cpy313.posixpath" 350) ["p","sep","empty"]++(tM 151 379 137 1 3 (stN 21) "dirname" (.str "cpy313.posixpath" 350) ["p","sep","i","head"]++(tM 158 389 145 1 3 (stN 22) "normpath" (.str "cpy313.posixpath" 350) ["path","sep","dot","dotdot","_","initial_slashes","comps","new_comps","comp"]++([eT,eF 0 [],{cls:=.none,data:=UJ (stN 23) "commonpath" 0 .none .none},qc "commonpath" "commonpath" 404 170 1 3 165 407 true fun v=>match v with|.ref 169=>.ref 167|_=>.none,{cls:=.type "function",data:=UJ (stN 23) "commonpath" 3 (.str "cpy313.posixpath" 350) (.ref 168)}]))))))))))))))))))))))))
noncomputable def Ju:Nat→BT→List Obj→BT
 |_,t,[]=>t
 |n,t,o::r=>Ju (n+1) (t.ins n o) r
noncomputable def UK (P:Params):BT:=Ju 0 .nil (R4 P)
noncomputable def WZ (P:Params):BT:=Ju 0 .nil (HZ P (boot_o_3 P)++[eT,eF 0 [],qc "<module>" "<module>" 182 1 0 0 11 185 false fun _=>.none,EE 13 3 (.str "__main__" 164)])
noncomputable def cg:Env:={scope:=PySem.Challenge.pw_ik0202_01.main.scope,locals:=mainNs,globals:=mainNs,cells:=[],code:=.ref 13,frame:=some 14}
section
open PyProof.Rows PySem.Calls
section
structure Cx where
 prog:Program
 w:World
 h₀:Heap
 mg:Str→Option Value
 mb:Str→Option Value
 W0:Nat→Addr
noncomputable abbrev Kp (h h':Heap):Prop:=∀b o,h.get? b=some o→h'.get? b=some o
noncomputable abbrev R5 (M:List Addr) (h h':Heap):Prop:=∀b o,b∉M→h.get? b=some o→h'.get? b=some o
noncomputable abbrev aC (s:List Nat):Str:=⟨s.toArray⟩
mutual
noncomputable def RV (X:Cx) (h:Heap) (Mu:List Addr):V→Value→Prop
 |.none,v=>v=.none
 |.bool b,v=>v=.bool b
 |.int i,v=>∃t,v=.int i t
 |.str s,v=>∃t,v=.str (aC s) t∧s.length≤16777216
 |.ty n,v=>v=.type n
 |.fW k,v=>v=.ref (X.W0 k)
 |.jM a b,v=>∃r t u z,v=.ref r∧r∉Mu∧IsRange h r a b 1 t u z∧small a=true∧small b=true
 |.tup xs,v=>∃a vs,v=.ref a∧a∉Mu∧IsTup h a vs.toArray∧vs.length≤16777216∧aE X h Mu xs vs
 |.lst xs,v=>∃a vs,v=.ref a∧a∉Mu∧h.IsList a vs.toArray∧vs.length≤16777216∧aE X h Mu xs vs
 |.cI xs,v=>∃a,v=.ref a∧a∉Mu∧h.SetOf (intKind X.prog X.w) a (fun k=>decide (k∈xs)) xs.length∧xs.Nodup∧xs.length≤7∧∀x∈xs,0≤x∧x<7
noncomputable def aE (X:Cx) (h:Heap) (Mu:List Addr):List V→List Value→Prop
 |[],vs=>vs=[]
 |x::xs,vs=>∃v r,vs=v::r∧RV X h Mu x v∧aE X h Mu xs r
end
section
variable {X:Cx} {h h':Heap} {Mu eL:List Addr}
theorem Ce (x:IsTup h a its) (hk:∀o,h.get? a=some o→h'.get? a=some o):IsTup h' a its:=by obtain ⟨o,ho,q⟩:=x;exact ⟨o,hk o ho,q⟩
theorem fN (x:h.IsList a its) (hk:∀o,h.get? a=some o→h'.get? a=some o):h'.IsList a its:=by obtain ⟨o,ho,q⟩:=x;exact ⟨o,hk o ho,q⟩
mutual
theorem RV.to (hk:∀a o,a∉Mu→h.get? a=some o→a∉eL∧h'.get? a=some o):∀(v:V) (val:Value),RV X h Mu v val→RV X h' eL v val
 |.none,_,r=>r
 |.bool _,_,r=>r
 |.int _,_,r=>r
 |.str _,_,r=>r
 |.ty _,_,r=>r
 |.fW _,_,r=>r
 |.jM _ _,_,r=>by obtain ⟨a,t,u,z,e,n,q,s⟩:=r;exact ⟨a,t,u,z,e,(hk _ _ n q).1,(hk _ _ n q).2,s⟩
 |.tup xs,_,r=>by obtain ⟨a,vs,e,n,⟨o,ho,q⟩,l,s⟩:=r;exact ⟨a,vs,e,(hk _ _ n ho).1,⟨o,(hk _ _ n ho).2,q⟩,l,aE.to hk xs vs s⟩
 |.lst xs,_,r=>by obtain ⟨a,vs,e,n,⟨o,ho,q⟩,l,s⟩:=r;exact ⟨a,vs,e,(hk _ _ n ho).1,⟨o,(hk _ _ n ho).2,q⟩,l,aE.to hk xs vs s⟩
 |.cI _,_,r=>by obtain ⟨a,e,n,⟨o,es,ep,t,ho,q⟩,s⟩:=r;exact ⟨a,e,(hk _ _ n ho).1,⟨o,es,ep,t,(hk _ _ n ho).2,q⟩,s⟩
theorem aE.to (hk:∀a o,a∉Mu→h.get? a=some o→a∉eL∧h'.get? a=some o):∀(v:List V) (val:List Value),aE X h Mu v val→aE X h' eL v val
 |[],_,r=>r
 |x::xs,_,r=>by obtain ⟨v,rr,e,p,q⟩:=r;exact ⟨v,rr,e,RV.to hk x v p,aE.to hk xs rr q⟩
end
theorem RV.keep (hk:R5 Mu h h') (v:V) (val:Value):RV X h Mu v val→RV X h' Mu v val:=RV.to (fun a o n e=>⟨n,hk a o n e⟩) v val
theorem aE.keep (hk:R5 Mu h h') (v:List V) (val:List Value):aE X h Mu v val→aE X h' Mu v val:=aE.to (fun a o n e=>⟨n,hk a o n e⟩) v val
theorem RV.mu (hk:∀a∈eL,a∈Mu∨h.get? a=none) (v:V) (val:Value):RV X h Mu v val→RV X h eL v val:= RV.to (fun a o n e=>⟨fun q=>(hk a q).elim n fun y=>(nomatch y.symm.trans e),e⟩) v val
theorem aE.mu (hk:∀a∈eL,a∈Mu∨h.get? a=none) (v:List V) (val:List Value):aE X h Mu v val→aE X h eL v val:= aE.to (fun a o n e=>⟨fun q=>(hk a q).elim n fun y=>(nomatch y.symm.trans e),e⟩) v val
theorem RV.kp (hk:Kp h h') {v:V} {val:Value} (r:RV X h Mu v val):RV X h' Mu v val:=RV.keep (fun b o _ e=>hk b o e) v val r
theorem aE.kp (hk:Kp h h') {v:List V} {val:List Value} (r:aE X h Mu v val):aE X h' Mu v val:=aE.keep (fun b o _ e=>hk b o e) v val r
theorem RV.sub (hs:∀a∈eL,a∈Mu) {v:V} {val:Value} (r:RV X h Mu v val):RV X h eL v val:=RV.mu (fun a q=>.inl (hs a q)) v val r
theorem aE.sub (hs:∀a∈eL,a∈Mu) {v:List V} {val:List Value} (r:aE X h Mu v val):aE X h eL v val:=aE.mu (fun a q=>.inl (hs a q)) v val r
theorem aE.cons {x:V} {v:Value} (p:RV X h Mu x v) (q:aE X h Mu xs vs):aE X h Mu (x::xs) (v::vs):=Exists.intro v (Exists.intro vs ⟨rfl,p,q⟩)
theorem aE.one {x:V} {v:Value} (p:RV X h Mu x v):aE X h Mu [x] [v]:=aE.cons p rfl
theorem aE.length:∀{xs:List V} {vs:List Value},aE X h Mu xs vs→vs.length=xs.length
 |[],vs,r=>by cases (show vs=[] from r);rfl
 |x::xs,vs,r=>by obtain ⟨v,rr,rfl,_,q⟩:=r;simp [aE.length q]
theorem aE.get:∀{xs:List V} {vs:List Value},aE X h Mu xs vs→∀{i:Nat} {x:V},xs[i]?=some x→∃v,vs[i]?=some v∧RV X h Mu x v
 |[],vs,r,i,x,e=>by simp at e
 |y::xs,vs,r,i,x,e=>by
  obtain ⟨v,rr,rfl,p,q⟩:=r;cases i with
  |zero=>simp at e;subst e;exact ⟨v,rfl,p⟩
  |succ i=>simpa using aE.get q (by simpa using e)
theorem aE.append:∀{xs ys:List V} {vs us:List Value},aE X h Mu xs vs→aE X h Mu ys us→aE X h Mu (xs++ys) (vs++us)
 |[],ys,vs,us,r,q=>by cases (show vs=[] from r);exact q
 |x::xs,ys,vs,us,r,q=>by obtain ⟨v,rr,rfl,p,s⟩:=r;exact aE.cons p (aE.append s q)
theorem aE.take:∀{xs:List V} {vs:List Value} (n:Nat),aE X h Mu xs vs→aE X h Mu (xs.take n) (vs.take n)
 |_,_,0,_=>rfl
 |[],vs,n+1,r=>by cases (show vs=[] from r);exact rfl
 |x::xs,vs,n+1,r=>by obtain ⟨v,rr,rfl,p,s⟩:=r;exact aE.cons p (aE.take n s)
theorem aE.drop:∀{xs:List V} {vs:List Value} (n:Nat),aE X h Mu xs vs→aE X h Mu (xs.drop n) (vs.drop n)
 |_,_,0,r=>r
 |[],vs,n+1,r=>by cases (show vs=[] from r);exact rfl
 |x::xs,vs,n+1,r=>by obtain ⟨v,rr,rfl,p,s⟩:=r;exact aE.drop n s
theorem aE.reverse:∀{xs:List V} {vs:List Value},aE X h Mu xs vs→aE X h Mu xs.reverse vs.reverse
 |[],vs,r=>by cases (show vs=[] from r);exact rfl
 |x::xs,vs,r=>by obtain ⟨v,rr,rfl,p,s⟩:=r;rw [List.reverse_cons,List.reverse_cons];exact aE.append (aE.reverse s) (aE.one p)
end
section
variable {X:Cx} {h:Heap} {Mu:List Addr} {P:Value→Prop} {v:Value}
@[elab_as_elim] theorem RV.eY {i:Int} (r:RV X h Mu (.int i) v) (k:∀t,P (.int i t)):P v:=by obtain ⟨t,rfl⟩:=(show ∃t,v=.int i t from r);exact k t
@[elab_as_elim] theorem RV.gT {s:List Nat} (r:RV X h Mu (.str s) v) (k:∀t,s.length≤16777216→P (.str (aC s) t)):P v:=by obtain ⟨t,rfl,l⟩:=(show ∃t,v=.str (aC s) t∧_ from r);exact k t l
@[elab_as_elim] theorem RV.tyE {n:String} (r:RV X h Mu (.ty n) v) (k:P (.type n)):P v:=by cases (show v=_ from r);exact k
@[elab_as_elim] theorem RV.Jv {n:Nat} (r:RV X h Mu (.fW n) v) (k:P (.ref (X.W0 n))):P v:=by cases (show v=_ from r);exact k
@[elab_as_elim] theorem RV.nC (r:RV X h Mu (.lst xs) v) (k:∀a vs,a∉Mu→h.IsList a vs.toArray→vs.length≤16777216→aE X h Mu xs vs→P (.ref a)):P v:=by obtain ⟨a,vs,rfl,h1,h2,h3,h4⟩:=(show ∃a vs,v=.ref a∧_ from r);exact k a vs h1 h2 h3 h4
@[elab_as_elim] theorem RV.j4 (r:RV X h Mu (.tup xs) v) (k:∀a vs,a∉Mu→IsTup h a vs.toArray→vs.length≤16777216→aE X h Mu xs vs→P (.ref a)):P v:=by obtain ⟨a,vs,rfl,h1,h2,h3,h4⟩:=(show ∃a vs,v=.ref a∧_ from r);exact k a vs h1 h2 h3 h4
@[elab_as_elim] theorem aE.ue {P:List Value→Prop} (r:aE X h Mu [] vs) (k:P []):P vs:=by cases (show vs=_ from r);exact k
@[elab_as_elim] theorem aE.gM {P:List Value→Prop} {x:V} (r:aE X h Mu (x::xs) vs) (k:∀v r,RV X h Mu x v→aE X h Mu xs r→P (v::r)):P vs:=by obtain ⟨v,t,rfl,h1,h2⟩:=(show ∃v r,vs=v::r∧_ from r);exact k v t h1 h2
@[elab_as_elim] theorem aE.R6 {P:List Value→Prop} {x:V} (r:aE X h Mu [x] vs) (k:∀v,RV X h Mu x v→P [v]):P vs:= r.gM fun v _ h1 h2=>h2.ue (P:=fun t=>P (v::t)) (k v h1)
@[elab_as_elim] theorem j5 {P:Value→Value→Prop} {a b:V} {f:Int→Int→Option α} {v:α} (e:i2 a b f=some v) (ra:RV X h Mu a va) (rb:RV X h Mu b vb) (k:∀x y t u,f x y=some v→P (.int x t) (.int y u)):P va vb:=by refine ob e fun x hx e=>ob e fun y hy e=>?_;refine cK (P:=fun a=>RV X h Mu a va→P va vb) hx (fun ra=>?_) ra;refine cK (P:=fun b=>RV X h Mu b vb→P va vb) hy (fun rb=>?_) rb;exact ra.eY (P:=fun va=>P va vb) fun t=>rb.eY (P:=fun vb=>P (.int x t) vb) fun u=>k x y t u e
@[elab_as_elim] theorem fc {P:List Value→Prop} {f:V→Option α} {args:List V} {v:α} (e:o6 f args=some v) (ra:aE X h Mu args jC) (k:∀x y,f x=some v→RV X h Mu x y→P [y]):P jC:=by
 cases args with
 |nil=>cases e
 |cons x r=>
  cases r with
  |cons _ _=>cases e
  |nil=>exact ra.R6 fun y q=>k x y e q
@[elab_as_elim] theorem mF {P:List Value→Prop} {f:V→V→Option α} {args:List V} {v:α} (e:vY f args=some v) (ra:aE X h Mu args jC) (k:∀x y x' y',f x y=some v→RV X h Mu x x'→RV X h Mu y y'→P [x',y']):P jC:=by
 cases args with
 |nil=>cases e
 |cons x r=>exact ra.gM fun x' r' q q'=>fc (P:=fun t=>P (x'::t)) (f:=f x) e q' fun y y' e q2=>k x y x' y' e q q2
@[elab_as_elim] theorem jD {a:V} {s:List Nat} (e:x8 a=some s) (ra:RV X h Mu a v) (k:∀t,s.length≤16777216→P (.str (aC s) t)):P v:=jw (P:=fun a=>RV X h Mu a v→_) e (fun ra=>ra.gT k) ra
@[elab_as_elim] theorem fU {a:V} {s:Int} (e:l7 a=some s) (ra:RV X h Mu a v) (k:∀t,P (.int s t)):P v:=cK (P:=fun a=>RV X h Mu a v→_) e (fun ra=>ra.eY k) ra
@[elab_as_elim] theorem wA {a:V} {s:List V} (e:x9 a=some s) (ra:RV X h Mu a v) (k:∀a vs,a∉Mu→h.IsList a vs.toArray→vs.length≤16777216→aE X h Mu s vs→P (.ref a)):P v:=fT (P:=fun a=>RV X h Mu a v→_) e (fun ra=>ra.nC k) ra
@[elab_as_elim] theorem Cf {a:V} {s:List V} (e:DW a=some s) (ra:RV X h Mu a v) (k:∀a vs,a∉Mu→IsTup h a vs.toArray→vs.length≤16777216→aE X h Mu s vs→P (.ref a)):P v:=Bm (P:=fun a=>RV X h Mu a v→_) e (fun ra=>ra.j4 k) ra
@[elab_as_elim] theorem rN {a:V} {s:String} (e:LU a=some s) (ra:RV X h Mu a v) (k:P (.type s)):P v:=ID (P:=fun a=>RV X h Mu a v→_) e (fun ra=>ra.tyE k) ra
theorem aE.ints:∀{xs:List V} {vs:List Value} {l:List Int},aE X h Mu xs vs→fX xs=some l→IntsAre vs l
 |[],_,_,r,e=>r.ue (os (P:=fun l=>IntsAre [] l) e .nil)
 |_::_,_,_,r,e=>r.gM fun _ _ p s=>ob e fun _ h e=>fU h p fun _=>om e fun _ e=>.cons _ _ (aE.ints s e)
end
end
end
variable {X:Cx}
section
open PyProof.Rows PySem.Calls
section
section
variable {X:Cx} {A:Around} {E:Value→Shared→Prop} {s:Shared} {Mu:List Addr} {Q:Value→Shared→Prop}
noncomputable abbrev Post (X:Cx) (Mu:List Addr) (s:Shared) (v:V) (Q:Value→Shared→Prop):Prop:= ∀val h' tk,Kp s.heap h'→RV X h' Mu v val→Q val {s with heap:=h',toks:=tk}
theorem Post.same {val:Value} (p:Post X Mu s v Q) (tk:Nat) (r:RV X s.heap Mu v val):Q val {s with toks:=tk}:=p val s.heap tk (fun _ _ e=>e) r
theorem Post.here {val:Value} (p:Post X Mu s v Q) (r:RV X s.heap Mu v val):Q val s:=p val s.heap s.toks (fun _ _ e=>e) r
theorem aA:Kp h (h.push o):=fun _ _ e=>Heap.get?_push_of_some o e
theorem av:sizeLine=16777216:=sizeLine_eq
theorem bk (hM:∀a∈Mu,∃o,h.get? a=some o):h.objs.size∉Mu:=fun q=>by obtain ⟨o,e⟩:=hM _ q;exact Nat.lt_irrefl _ (Heap.lt_size e)
theorem bH {n:Nat} (h:ck n=true):n≤16777216:=Nat.le_of_ble_eq_true h
theorem gw (hM:∀a∈Mu,∃o,h.get? a=some o) (r:aE X h Mu xs vs) (hz:vs.length≤16777216):
  RV X (h.push {cls:=.type "list",data:=.seq vs.toArray}) Mu (.lst xs) (.ref h.objs.size):=by
 exact Exists.intro _ (Exists.intro vs ⟨rfl,bk hM,⟨_,Heap.get?_push_size h rfl,rfl,0,rfl⟩,hz,r.kp aA⟩)
theorem kU (hM:∀a∈Mu,∃o,h.get? a=some o) (r:aE X h Mu xs vs) (hz:vs.length≤16777216):
  RV X (h.push {cls:=.type "tuple",data:=.seq vs.toArray}) Mu (.tup xs) (.ref h.objs.size):=by
 exact Exists.intro _ (Exists.intro vs ⟨rfl,bk hM,⟨_,Heap.get?_push_size h rfl,rfl,0,rfl⟩,hz,r.kp aA⟩)
theorem wB {b:Addr} {ws:List Value} (hl:s.heap.IsList l vs.toArray) (hb:s.heap.IsList b ws.toArray)
  (h:Q (.ref s.heap.objs.size) {s with heap:=s.heap.push {cls:=.type "list",data:=.seq (vs++ws).toArray}}) (hsz:vs.length+ws.length≤sizeLine):
  wpAny (model X.prog X.w) A (binaryOp .Add (.ref l) (.ref b)) Q E s:=by
 obtain ⟨⟨cls,dd,data,sl⟩,ho,hc,n,hd⟩:=id hl;obtain ⟨⟨Jw,dd2,data2,sl2⟩,ho2,hc2,n2,hd2⟩:=id hb;simp only at hc hd hc2 hd2;subst hc hd hc2 hd2;refine concat_meets ⟨_,ho,rfl⟩ ⟨_,ho2,rfl⟩ noFill_list_add seq_list_add PySem.F.slot_list_add PySem.F.entry_list_add (PySem.F.args_list_add_2 _ _) (list_addW l b vs.toArray ws.toArray n n2 dd dd2 sl sl2 (by simpa using hsz)) ⟨ho,ho2,?_⟩;rw [show vs.toArray++ws.toArray=(vs++ws).toArray by simp];exact h
theorem wC {a:Int} (h:small a=true):Builtin.Int.intBits a≤64:=by
 unfold small at h;have h:=of_decide_eq_true h;unfold Builtin.Int.intBits;split
 ·decide
 ·rename_i hb;have:a.natAbs.log2<31:=by
   rw [Nat.log2_lt (by simpa using hb)];omega
  exact M4 this
theorem rP {a b:Int} (h:small b=true):Builtin.divisionGoesByPylong a b=false:=by
 unfold small at h;have h:=of_decide_eq_true h;unfold Builtin.divisionGoesByPylong;have hd:(if b==0 then 0 else b.natAbs.log2/30+1)≤300:=by
  split
  ·decide
  ·rename_i hb;have:b.natAbs.log2<31:=by
    rw [Nat.log2_lt (by simpa using hb)];omega
   exact M5 this
 simp only [Bool.and_eq_false_iff,decide_eq_false_iff_not];left;exact M7 hd
noncomputable def zM:Op→Operator
 |.add=>.Add|.sub=>.Sub|.mul=>.Mult|.fdiv=>.FloorDiv|.mod=>.Mod|.shr=>.RShift|.pow=>.Pow|.bor=>.BitOr|.band=>.BitAnd|.bxor=>.BitXor
theorem zN (c n:Nat):(List.replicate n (#[c]:Array Nat)).foldl (·++·) #[]=(List.replicate n c).toArray:=by
 have:∀(n:Nat) (acc:Array Nat),(List.replicate n (#[c]:Array Nat)).foldl (·++·) acc=acc++(List.replicate n c).toArray:=by
  intro n;induction n with
  |zero=>intro acc;simp
  |succ n ih=>intro acc;rw [List.replicate_succ,List.foldl_cons,ih,List.replicate_succ];apply Array.toList_inj.mp;simp
 simpa using this n #[]
theorem EF (c:Nat) (n:Int):Txt.mul (aC [c]) n=aC (List.replicate n.toNat c):=by
 unfold Txt.mul;split
 ·rename_i h;have:n.toNat=0:=M6 h;rw [this];rfl
 ·rename_i h;split
  ·rename_i h2;simp [Str.length] at h2;have:n=1:=by omega
   subst this;rfl
  ·show Str.mk ((List.replicate n.toNat (#[c]:Array Nat)).foldl (·++·) #[])=_;rw [zN]
theorem R7 {n:Int} (h0:0≤n) (h1:n.toNat≤16777216):MulOk (aC [c]) n:=by
 refine ⟨by simp only [Bool.or_eq_false_iff,decide_eq_false_iff_not];omega,fun a b=>?_,fun a b=>?_⟩
 ·have e:((aC [c]).length:Int)=1:=rfl;rw [e];have:(1:Int)≤(2^63-1)/n:=by
   rw [Int.le_ediv_iff_mul_le (by exact M8 a)];omega
  exact M9 this
 ·have e:(aC [c]).length=1:=rfl;rw [e,Nat.one_mul];unfold Builtin.Str.tooLong;simp only [decide_eq_false_iff_not];rw [av];exact Na h1
theorem str_len (s:List Nat):(aC s).length=s.length:=by simp [Str.length]
theorem mG (a b:List Nat):aC a++aC b=aC (a++b):=Str.ext' (by simp [Str.cps_append])
noncomputable def rQ (X:Cx):Prop:=∀(A:Around) (E Q:_) (s:Shared) (Mu:List Addr) (op:Op) (a b:List Int) (va vb:Value) (v:V),A.handled=none→A.units<9000→
 (∀a∈Mu,∃o,s.heap.get? a=some o)→jx op (.cI a) (.cI b)=some v→RV X s.heap Mu (.cI a) va→RV X s.heap Mu (.cI b) vb→Post X Mu s v Q→
 wpAny (model X.prog X.w) A (binaryOp (zM op) va vb) Q E s
theorem yG {a b:V} {P:V→V→V→Prop} (e:Ro a b=some v) (k1:∀x y,P (.int x) (.int y) (.int (x+y))) (k2:∀x y:List Nat,ck (x.length+y.length)=true→P (.str x) (.str y) (.str (x++y)))
  (k3:∀x y:List V,ck (x.length+y.length)=true→P (.lst x) (.lst y) (.lst (x++y))):P a b v:=by
 cases a <;>first|exact no e|skip
 ·exact ob e fun y h e=>cK (P:=fun b=>P _ b _) h (os (P:=fun v=>P _ _ v) e (k1 _ _))
 ·exact ob e fun y h e=>jw (P:=fun b=>P _ b _) h (oi e fun z e=>os (P:=fun v=>P _ _ v) e (k2 _ _ z))
 ·exact ob e fun y h e=>fT (P:=fun b=>P _ b _) h (oi e fun z e=>os (P:=fun v=>P _ _ v) e (k3 _ _ z))
theorem EG {a b:V} {P:V→V→V→Prop} (e:Rp a b=some v) (k1:∀x y,(small x&&small y)=true→P (.int x) (.int y) (.int (x*y)))
  (k2:∀c y,(decide (0≤y)&&ck y.toNat)=true→P (.str [c]) (.int y) (.str (List.replicate y.toNat c))):P a b v:=by
 cases a <;>first|exact no e|skip
 ·exact ob e fun y h e=>cK (P:=fun b=>P _ b _) h (oi e fun z e=>os (P:=fun v=>P _ _ v) e (k1 _ _ z))
 ·exact ob e fun c hc e=>ob e fun y h e=>cK (P:=fun b=>P _ b _) h (qQ (P:=fun x=>P (.str x) _ _) hc (oi e fun z e=>os (P:=fun v=>P _ _ v) e (k2 _ _ z)))
theorem EH {a b:V} {P:V→V→V→Prop} (e:D9 a b=some v) (k1:∀x y,P (.int x) (.int y) (.int (Builtin.bitOr x y))) (k2:∀x y,D9 (.cI x) (.cI y)=some v→P (.cI x) (.cI y) v):P a b v:=by
 cases a <;>first|exact no e|skip
 ·exact ob e fun y h e=>cK (P:=fun b=>P _ b _) h (os (P:=fun v=>P _ _ v) e (k1 _ _))
 ·exact ob e fun y h e'=>vW (P:=fun b=>D9 _ b=some v→P _ b _) h (k2 _ _) e
theorem Jx (HS:rQ X) {op:Op} {a b:V} (hh:A.handled=none) (hu:A.units<9000) (hM:∀a∈Mu,∃o,s.heap.get? a=some o)
  (e:jx op a b=some v) (ra:RV X s.heap Mu a va) (rb:RV X s.heap Mu b vb) (p:Post X Mu s v Q):wpAny (model X.prog X.w) A (binaryOp (zM op) va vb) Q E s:=by
 have fin:∀{x:Int},some (V.int x)=some v→∀{t tk},Q (.int x t) {s with toks:=tk}:=fun {_} h {t tk}=>os (P:=fun v=>Post X Mu s v Q→_) h (fun p=>p.same tk ⟨t,rfl⟩) p;cases op with
 |add=>
  refine yG (P:=fun a b v=>RV X s.heap Mu a va→RV X s.heap Mu b vb→Post X Mu s v Q→_) e (fun x y ra rb p=>?_) (fun x y hz ra rb p=>?_) (fun x y hz ra rb p=>?_) ra rb p
  ·exact ra.eY fun t=>rb.eY fun u=>add_int (p.same _ ⟨_,rfl⟩)
  ·refine ra.gT fun t l1=>rb.gT fun u l2=>add_str (fun t' tk=>?_) (by rw [str_len,str_len,av];exact bH hz);rw [mG];exact p.same _ ⟨t',rfl,by rw [List.length_append];exact bH hz⟩
  ·refine ra.nC fun l vs _ hl z1 r1=>rb.nC fun l2 vs2 _ hl2 z2 r2=>?_;have hz':vs.length+vs2.length≤16777216:=by rw [r1.length,r2.length];exact bH hz
   exact wB hl hl2 (p _ _ s.toks aA (gw hM (aE.append r1 r2) (by rw [List.length_append];exact hz'))) (by rw [av];exact hz')
 |sub=>exact j5 e ra rb fun x y t u e=>sub_int (fin e)
 |mul=>
  refine EG (P:=fun a b v=>RV X s.heap Mu a va→RV X s.heap Mu b vb→Post X Mu s v Q→_) e (fun x y hz ra rb p=>?_) (fun x y hz ra rb p=>?_) ra rb p
  ·exact ra.eY fun t=>rb.eY fun u=>ba hz fun h1 _=>mul_int (p.same _ ⟨_,rfl⟩) (IntMulOk.of_left (wC h1))
  ·refine ra.gT fun t _=>rb.eY fun u=>ba hz fun h1 h2=>SB.mul (R7 (of_decide_eq_true h1) (bH h2)) fun t' k=>?_;rw [EF];exact p.same _ ⟨t',rfl,by rw [List.length_replicate];exact bH h2⟩
 |fdiv=>exact j5 e ra rb fun x y t u e=>oi e fun hz e=>ba hz fun h1 h2=>floordiv_int (of_decide_eq_true h2) (fin e) (.inl (rP h1))
 |mod=>exact j5 e ra rb fun x y t u e=>oi e fun hz e=>mod_int' (of_decide_eq_true hz) (fin e)
 |shr=> refine j5 e ra rb fun x y t u e1=>oi e1 fun hz e2=>ba hz fun h1 h2=>?_;cases of_decide_eq_true h1;exact wpAny_rshift1_int (of_decide_eq_true h2) (fin e2)
 |pow=> refine j5 e ra rb fun x y t u e1=>oi e1 fun hz e2=>ba hz fun h1 h3=>ba h1 fun h1 h2=>?_;cases of_decide_eq_true h1;refine pow_int (of_decide_eq_true h2) ?_ (fin e2);rw [show (Builtin.Int.intBits 2:Int)=2 by decide+kernel];have h3:=of_decide_eq_true h3;omega
 |bor=>
  refine EH (P:=fun a b v'=>v'=v→RV X s.heap Mu a va→RV X s.heap Mu b vb→_) e (fun x y hv ra rb=>?_) (fun x y e _ ra rb=>?_) rfl ra rb
  ·exact ra.eY fun t=>rb.eY fun u=>or_int (fin (congrArg some hv))
  ·exact HS A E Q s Mu .bor _ _ va vb v hh hu hM e ra rb p
 |band=>exact j5 e ra rb fun x y t u e=>and_int (fin e)
 |bxor=> refine ob e fun x hx e'=>ob e' fun y hy _=>?_;refine vW (P:=fun a=>jx .bxor a b=some v→RV X s.heap Mu a va→_) hx (fun e ra=>?_) e ra;refine vW (P:=fun b=>jx .bxor _ b=some v→RV X s.heap Mu b vb→_) hy (fun e rb=>?_) e rb;exact HS A E Q s Mu .bxor _ _ va vb v hh hu hM e ra rb p
end
end
end
section
open PyProof.Rows PySem.Calls PySem.SeqAt
section
noncomputable def wD (k:Nat) (x:Str):Bool:=match x.cps.toList with
 |[c]=>aQ k c
 |_=>false
structure Gd (X:Cx):Prop where
 g:X.h₀.Ns mainGlobals X.mg
 b:X.h₀.Ns builtinsNs X.mb
 lim:X.h₀.NoLimit
 fW:∀k,∃n,n<4096∧FrozAt (PySem.strKind X.prog X.w) X.h₀ (X.W0 k) (wD k) n
section
variable {X:Cx} {A:Around} {E:Value→Shared→Prop} {s:Shared} {Mu:List Addr}
theorem Jy {K:Type} [DecidableEq K] {knd:PySem.KeyKind X.prog X.w K} {S:K→Bool} {n:Nat} {k:K} {key:Value} (hS:FrozAt knd s.heap a S n) (hkey:knd.is k key=true) (hsc:key.scannable=true) (hb:n<4096)
  (h:Q (.bool (S k)) {s with toks:=s.toks+1}):wpAny (model X.prog X.w) A (compareOp .In key (.ref a)) Q E s:=by
 obtain ⟨es,ep,t,ho,hel,hmem,hn,hf⟩:=hS;have hT:s.TypeIs (.ref a) "frozenset":=⟨_,ho,rfl⟩;show wpAny _ _ (do return .bool (←contains (.ref a) key)) Q E s;refine wpAny_bind ?_;unfold contains
 try with_reducible refine wpAny_holding ?_
 refine wpAny_bind (wpAny_specialOf hT FB.slot_frozenset_contains.lookup ?_);show wpAny _ _ (if (some (Value.builtin "frozenset.__contains__")==some Value.none)=true then _ else _) _ E s;rw [if_neg (by rw [beq_builtin_none];exact Bool.false_ne_true)]
 refine wpAny_bind (wpAny_callSpecialUnlessNone?_slot (name:=Str.ofString "__contains__") hT FB.slot_frozenset_contains
  (wpAny_call_entry FB.slot_frozenset_contains hT FB.entry_frozenset_contains ?_ (FB.args_frozenset_contains_2 _ _)))
 unfold Builtin.«frozenset.__contains__» Builtin.Frozenset.oneOther;simp only [List.isEmpty_nil,bind_assoc];unfold Builtin.Frozenset.addrOf Builtin.Frozenset.withSetAsKey setContains;refine wpAny_bind (wpAny_pure ?_)
 try dsimp only
 refine wpAny_bind (wpAny_pure ?_)
 try dsimp only
 refine wpAny_bind (wpAny_tryCatch ?_);refine wpAny_holding ?_;refine wpAny_bind (knd.pyHash hkey ?_);refine wpAny_bind (setFind_any (s:={s with toks:=s.toks+1}) hkey hsc ho rfl hel hmem (by rw [hn];exact hb) hf fun r hr=>?_);refine wpAny_pure ?_;show wpAny _ _ (ret (Value.bool r.isSome)) _ _ _;rw [hr];exact wpAny_pure ⟨_,rfl,wpAny_truthy_bool (wpAny_pure h)⟩
theorem iW {K:Type} [DecidableEq K] {knd:PySem.KeyKind X.prog X.w K} {S:K→Bool} {n:Nat} (hS:FrozAt knd h a S n) (hk:Kp h h'):FrozAt knd h' a S n:=by obtain ⟨es,ep,t,ho,q⟩:=hS;exact ⟨es,ep,t,hk _ _ ho,q⟩
theorem yH (rr:aE X h Mu xs vs) (e:some (!xs.isEmpty)=some b):(!(List.toArray vs).isEmpty)=b:=by cases e;have:=rr.length;cases xs <;>cases vs <;>simp_all
theorem wF {Q:Bool→Shared→Prop} (e:jy v=some b) (r:RV X s.heap Mu v va) (p:∀tk,Q b {s with toks:=tk}):wpAny (model X.prog X.w) A (truthy va) Q E s:=by
 have p0:Q b s:=p s.toks;cases v with
 |none=>cases (show va=.none from r);exact os (P:=fun b=>Q b s→_) e (fun p=>truthy_none p) p0
 |bool x=>cases (show va=.bool x from r);exact os (P:=fun b=>Q b s→_) e (fun p=>wpAny_truthy_bool p) p0
 |int i=> refine r.eY fun t=>truthy_int ?_;have:(i !=0)=b:=os (P:=fun b=>_=b) e (by by_cases q:i=0 <;>simp [q]);rw [this];exact p0
 |str x=> refine r.gT fun t hl=>P.truthy_str (by rw [str_len];omega) ?_;have:((↑(aC x).length:Int) !=0)=b:=os (P:=fun b=>_=b) e (by rw [str_len];cases x <;>simp <;>exact OE);rw [this];exact p _
 |tup xs=> refine r.j4 fun a vs _ ht hl rr=>truthy_tuple ht (by simp;omega) ?_;rw [yH rr e];exact p _
 |lst xs=> refine r.nC fun a vs _ ht hl rr=>wpAny_truthy_list ht (by simp;omega) ?_;rw [yH rr e];exact p _
 |_=>exact no e
noncomputable def Jz:Cp→CmpOp
 |.eq=>.Eq|.ne=>.NotEq|.lt=>.Lt|.le=>.LtE|.gt=>.Gt|.ge=>.GtE|.isin=>.In
theorem iX (a b:List Nat):((aC a)==(aC b))=(a==b):=by
 by_cases h:a=b
 ·subst h;simp
 ·have:aC a≠aC b:=fun q=>h (by
   have:=congrArg (fun x=>x.cps.toList) q
   simpa using this)
  rw [beq_eq_false_iff_ne.mpr h,beq_eq_false_iff_ne.mpr this]
theorem IntsAre.at' {ns:List Int} (h:IntsAre vs ns):∀{i:Nat} {v:Value},vs[i]?=some v→∃n t,ns[i]?=some n∧v=.int n t:=by
 induction h with
 |nil=>intro i v e;simp at e
 |cons n t _ ih=>
  intro i v e;cases i with
  |zero=>simp at e;exact ⟨n,t,rfl,e.symm⟩
  |succ i=>simpa using ih (by simpa using e)
theorem EJ {b:Addr} {us:List Value} {ns ms:List Int} (hl:s.heap.IsList l vs.toArray) (hb:s.heap.IsList b us.toArray) (h1:IntsAre vs ns) (h2:IntsAre us ms) (hu:A.units<9000)
  (p:Q (.bool (ns==ms)) s):wpAny (model X.prog X.w) A (compareOp .Eq (.ref l) (.ref b)) Q E s:=by
 have hc:A.units<cLine:=by unfold cLine;exact D5 hu
 by_cases hz:vs.length=us.length
 ·refine eq_listAt (e:=fun j=>ns.getD j 0==ms.getD j 0) hl hb (by simpa using hz) hc (fun j q1 q2=>?_) ?_
  ·obtain ⟨n,t,en,e1⟩:=IntsAre.at' h1 (i:=j) (v:=vs.toArray[j]) (by simp at q1;simp [q1]);obtain ⟨m,u,em,e2⟩:=IntsAre.at' h2 (i:=j) (v:=us.toArray[j]) (by simp at q2;simp [q2]);rw [e1,e2];have:=EqAt.int_int (A:=A.in1) (s:=s) n t m u;simpa [List.getD,en,em] using this
  ·have:((List.range vs.toArray.size).all fun j=>ns.getD j 0==ms.getD j 0)=(ns==ms):=by
    have l1:=h1.length;have l2:=h2.length;rw [Bool.eq_iff_iff];simp only [List.all_eq_true,List.mem_range,List.size_toArray,beq_iff_eq];constructor
    ·intro q;apply List.ext_getElem (OC hz l1 l2);intro i i1 i2;have:=q i (OD l1 i1);simpa [List.getD,i1,i2] using this
    ·rintro rfl i _;rfl
   rw [this];exact p
 ·refine eq_list_lengthsAt hl hb (by simpa using hz) hc ?_;have:(ns==ms)=false:=beq_eq_false_iff_ne.mpr fun q=>hz (by rw [h1.length,h2.length,q]);rw [←this];exact p
end
end
end
section
open PyProof.Rows PySem.Calls PySem.SeqAt PySem.MeetsSeq3
section
noncomputable def rS (A:Around) (s:Shared) (x y:Value) (b:Bool):Prop:= ∀(prog:Program) (w:World) (E Q:Value→Shared→Prop),Q (.bool b) s→wpAny (model prog w) A (richCompare .Lt x y) Q E s
theorem rS.int (A:Around) (s:Shared) (a b:Int) (t u:Tok):rS A s (.int a t) (.int b u) (decide (a<b)):=fun _ _ _ _ q=>lt_int q
theorem rS.str (A:Around) (s:Shared) (a b:Str) (t u:Tok):rS A s (.str a t) (.str b u) (decide (a.cps.toList<b.cps.toList)):=fun _ _ _ _ q=>P.lt_str q
theorem rW:∀(a b:List Nat),ltN a b=decide (a<b)
 |[],[]=>by simp [ltN]
 |[],_::_=>by simp [ltN]
 |_::_,[]=>by simp [ltN]
 |a::r,b::t=>by
  rw [StrLaws.lt_cons_cons];unfold ltN;rw [rW r t]
  by_cases h:a<b
  ·simp [h]
  ·by_cases q:a=b
   ·subst q;simp
   ·simp [h,q]
inductive Lex (A:Around) (s:Shared) (z:Bool):List (Value×Value)→Bool→Prop
 |nil:Lex A s z [] z
 |cons {x y:Value} {e l r:Bool} {rest:List (Value×Value)} (he:EqAt A s x y e) (hl:rS A s x y l) (h:Lex A s z rest r):Lex A s z ((x,y)::rest) (if e then r else l)
theorem Cg (l b:Addr) (items items2:Array Value) (n n2:Nat) (dd dd2:Option Addr) (sl sl2:Array (Option Value)) (r:Bool):
  Meets (Builtin.«tuple.__lt__» ⟨[.ref l,.ref b],[]⟩)
   (fun A R s=>s.heap.get? l=some {cls:=.type "tuple",dict:=dd,data:=.seq items n,slots:=sl}∧s.heap.get? b=some {cls:=.type "tuple",dict:=dd2,data:=.seq items2 n2,slots:=sl2}∧
    Lex A.in1 s (decide (items.size<items2.size)) (items.toList.zip items2.toList) r∧R (.ok (.ret (.bool r))) s):=
 .of_wp fun prog w A R s h=>by
  obtain ⟨hp,g,d,tk,os⟩:=s;obtain ⟨hl,hb,hx,h⟩:=h;have f2:=AutoSeq1.sub_tuple_tuple
  wp_walk using wpAny_loadPart' hl,wpAny_loadPart' hb,wpAny_forIn_list _ (fun rest b s'=>b.1=none∧s'=⟨hp,g,d,tk,os⟩∧∃q,Lex A.in1 ⟨hp,g,d,tk,os⟩ (decide (items.size<items2.size)) rest q∧
   R (.ok (.ret (.bool q))) ⟨hp,g,d,tk,os⟩) _
  case turn=>
   rintro ⟨y,x⟩ rest b s' ⟨hb',rfl,q,hz,hR⟩;cases hz with
   |cons he hlt hr=>
    rename_i e l r';refine wpAny_bind (he prog w _ _ ?_);cases e with
    |true=> wp_walk;exact ⟨rfl,rfl,_,hr,hR⟩
    |false=> show wpAny _ _ (do rule "tuple.compare.by-the-first-pair-that-differs";let a←richCompare CmpOp.Lt y x;let b←ret a;pure (ForInStep.done (some b,()))) _ _ _;refine wpAny_bind (wpAny_rule (wpAny_bind (hlt prog w _ _ ?_)));wp_walk;exact ⟨_,rfl,hR⟩
  case fin=> rintro b s' ⟨hb',rfl,q,hz,hR⟩;obtain ⟨b1,b2⟩:=b;simp only at hb';subst hb';cases hz;wp_walk;exact ⟨_,rfl,by simpa [Builtin.Tuple.tupleCompareSizes] using hR⟩
  case h=> exact ⟨rfl,rfl,r,hx,h⟩
theorem EK (l b:Addr) (items items2:Array Value) (n n2:Nat) (dd dd2:Option Addr) (sl sl2:Array (Option Value)):∀(k i:Nat) (r:Bool),min items.size items2.size-i=k→
  Meets (Builtin.«list.__eq__.loop» ⟨[.ref l,.ref b,rawInt i,rawInt 0],[]⟩)
   (fun A R s=>s.heap.get? l=some {cls:=.type "list",dict:=dd,data:=.seq items n,slots:=sl}∧s.heap.get? b=some {cls:=.type "list",dict:=dd2,data:=.seq items2 n2,slots:=sl2}∧
    Lex A.in1 s (decide (items.size<items2.size)) ((items.toList.zip items2.toList).drop i) r∧R (.ok (.ret (.bool r))) s):=by
 intro k;induction k with
 |zero=>
  intro i r hk prog w A R s h;obtain ⟨hp,g,d,tk,os⟩:=s;obtain ⟨hl,hb,hx,h⟩:=h;rw [List.drop_of_length_le (by simp;exact MC hk)] at hx;cases hx;wp_walk using wpAny_loadPart' hl,wpAny_loadPart' hb;have hq:items[((i:Nat):Int).toNat]?=none∨items2[((i:Nat):Int).toNat]?=none:=by
   rcases Nat.le_total items.size items2.size with q|q
   ·left;simp;exact MD hk q
   ·right;simp;exact ME hk q
  rcases hq with q|q <;>rw [q]
  ·wp_walk using wpAny_loadPart' hl,wpAny_loadPart' hb;exact h
  ·cases items[((i:Nat):Int).toNat]? <;>
   ·wp_walk using wpAny_loadPart' hl,wpAny_loadPart' hb;exact h
 |succ k ih=>
  intro i r hk prog w A R s h;obtain ⟨hp,g,d,tk,os⟩:=s;obtain ⟨hl,hb,hx,h⟩:=h;have hlt:i<items.size:=MF hk;have Ci:i<items2.size:=MG hk;have hi1:items[((i:Nat):Int).toNat]?=some items[i]:=by simp [hlt]
  have hi2:items2[((i:Nat):Int).toNat]?=some items2[i]:=by simp [Ci]
  have hz:i<(items.toList.zip items2.toList).length:=by simp;exact MH hlt Ci
  have hd:(items.toList.zip items2.toList).drop i=(items[i],items2[i])::(items.toList.zip items2.toList).drop (i+1):=by rw [List.drop_eq_getElem_cons hz];simp
  have hc:((i:Int)+1)=((i+1:Nat):Int):=by push_cast;rfl
  rw [hd] at hx;wp_walk using wpAny_loadPart' hl,wpAny_loadPart' hb;rw [hi1,hi2];cases hx with
  |cons he hlt' hr=>
   rename_i e lb r';refine wpAny_bind (he prog w _ _ ?_);cases e with
   |true=>
    wp_walk;rw [hc]
    exact ⟨plainId_quiet plain_eq_loop _,codeAny_builtin entry_eq_loop (by
     rw [Around.under_plainId plain_eq_loop _]
     exact ih (i+1) r' (MJ hk) prog w A R _ ⟨hl,hb,hr,h⟩)⟩
   |false=> wp_walk using wpAny_loadPart' hl,wpAny_loadPart' hb;rw [hi1,hi2];refine wpAny_bind (hlt' prog w _ _ ?_);wp_walk;exact h
theorem EL (l b:Addr) (items items2:Array Value) (n n2:Nat) (dd dd2:Option Addr) (sl sl2:Array (Option Value)) (r:Bool):
  Meets (Builtin.«list.__lt__» ⟨[.ref l,.ref b],[]⟩)
   (fun A R s=>s.heap.get? l=some {cls:=.type "list",dict:=dd,data:=.seq items n,slots:=sl}∧s.heap.get? b=some {cls:=.type "list",dict:=dd2,data:=.seq items2 n2,slots:=sl2}∧
    Lex A.in1 s (decide (items.size<items2.size)) (items.toList.zip items2.toList) r∧R (.ok (.ret (.bool r))) s):=by
 intro prog w A R s h;obtain ⟨hp,g,d,tk,os⟩:=s;obtain ⟨hl,hb,hx,h⟩:=h;have f3:=AutoSeq1.sub_list_list;wp_walk using wpAny_loadPart' hl,wpAny_loadPart' hb
 exact ⟨plainId_quiet plain_eq_loop _,codeAny_builtin entry_eq_loop (by
  rw [Around.under_plainId plain_eq_loop _]
  exact EK l b items items2 n n2 dd dd2 sl sl2 _ 0 r rfl prog w A R _ ⟨hl,hb,hx,h⟩)⟩
section
variable {X:Cx} {A:Around} {E Q:Value→Shared→Prop} {s:Shared}
theorem zO {b:Addr} {r:Bool} (hl:IsTup s.heap l items) (hb:IsTup s.heap b items2) (hu:A.units<9000) (hx:Lex A.in1 s (decide (items.size<items2.size)) (items.toList.zip items2.toList) r)
  (p:Q (.bool r) s):wpAny (model X.prog X.w) A (richCompare .Lt (.ref l) (.ref b)) Q E s:=by
 obtain ⟨⟨cls,dd,data,sl⟩,ho,hc,n,hd⟩:=id hl;obtain ⟨⟨Jw,dd2,data2,sl2⟩,ho2,hc2,n2,hd2⟩:=id hb;simp only at hc hd hc2 hd2;subst hc hd hc2 hd2;exact richCompare_meets_room (op:=.Lt) ⟨_,ho,rfl⟩ ⟨_,ho2,rfl⟩ F.slot_tuple_lt F.entry_tuple_lt (F.args_tuple_lt_2 _ _) (Cg l b items items2 n n2 dd dd2 sl sl2 r)
  ⟨ho,ho2,hx,show Value.bool r≠Value.notImplemented∧Q (.bool r) s from ⟨(fun x=>nomatch x),p⟩⟩ (by unfold cLine;exact D5 hu)
theorem Cj {b:Addr} {r:Bool} (hl:s.heap.IsList l items) (hb:s.heap.IsList b items2) (hu:A.units<9000) (hx:Lex A.in1 s (decide (items.size<items2.size)) (items.toList.zip items2.toList) r)
  (p:Q (.bool r) s):wpAny (model X.prog X.w) A (richCompare .Lt (.ref l) (.ref b)) Q E s:=by
 obtain ⟨⟨cls,dd,data,sl⟩,ho,hc,n,hd⟩:=id hl;obtain ⟨⟨Jw,dd2,data2,sl2⟩,ho2,hc2,n2,hd2⟩:=id hb;simp only at hc hd hc2 hd2;subst hc hd hc2 hd2;exact richCompare_meets_room (op:=.Lt) ⟨_,ho,rfl⟩ ⟨_,ho2,rfl⟩ F.slot_list_lt F.entry_list_lt (F.args_list_lt_2 _ _) (EL l b items items2 n n2 dd dd2 sl sl2 r)
  ⟨ho,ho2,hx,show Value.bool r≠Value.notImplemented∧Q (.bool r) s from ⟨(fun x=>nomatch x),p⟩⟩ (by unfold cLine;exact D5 hu)
end
end
end
section
open PyProof.Rows PySem.Calls PySem.SeqAt
section
section
variable {X:Cx} {A:Around} {E:Value→Shared→Prop} {s:Shared} {Mu:List Addr}
theorem aE.strs:∀{xs:List V} {vs:List Value} {l:List (List Nat)},aE X s.heap Mu xs vs→bJ xs=some l→StrsAre vs (l.map aC)
 |[],_,_,r,e=>r.ue (os (P:=fun l=>StrsAre [] (l.map aC)) e .nil)
 |_::_,_,_,r,e=>r.gM fun _ _ p q=>ob e fun _ h e=>jD h p fun _ _=>om (P:=fun l=>StrsAre _ (l.map aC)) e fun _ e=>.cons _ _ (aE.strs q e)
noncomputable def hits (x:Str):Value→Bool
 |.str y _=>y==x
 |_=>false
theorem StrsAre.hits {vs:List Value} {ys:List Str} (h:StrsAre vs ys) (x:Str):vs.any (hits x)=ys.any (·==x):=by
 induction h with
 |nil=>rfl
 |cons y t _ ih=>simp [List.any_cons,ih,Mine.hits]
theorem StrsAre.mem {ys:List Str} (h:StrsAre vs ys):∀v∈vs,∃y t,v=.str y t:=by
 induction h with
 |nil=>intro v h;cases h
 |cons y t _ ih=>
  intro v h;rcases List.mem_cons.mp h with rfl|h
  ·exact ⟨y,t,rfl⟩
  ·exact ih v h
theorem j6 (x:List Nat):∀l:List (List Nat),(l.map aC).any (·==aC x)=l.contains x
 |[]=>rfl
 |z::l=>by
  rw [List.map_cons,List.any_cons,List.contains_cons,j6 x l,iX];have:(z==x)=(x==z):=by
   by_cases h:z=x
   ·subst h;rfl
   ·rw [beq_eq_false_iff_ne.mpr h,beq_eq_false_iff_ne.mpr (Ne.symm h)]
  rw [this]
theorem JA (a b i j:Int) (u v:List Nat):(if (a==b)=true then (if ((aC u)==(aC v))=true then (if (i==j)=true then false else decide (i<j)) else decide ((aC u).cps.toList<(aC v).cps.toList)) else decide (a<b))=aN (a,u,i) (b,v,j):=by
 rw [iX];unfold aN;simp only [beq_iff_eq,rW]
 by_cases h:a=b
 ·by_cases q:u=v
  ·by_cases r:i=j
   ·simp [h,q,r]
   ·simp [h,q,r]
  ·simp [h,q]
 ·simp [h]
theorem JB {a b:V} {r:Bool} {P:V→V→Bool→Prop} (e:Za a b=some r) (k1:∀x y,P (.int x) (.int y) (x==y)) (k2:∀x y,P (.str x) (.str y) (x==y))
  (k3:∀x y l m,fX x=some l→fX y=some m→P (.lst x) (.lst y) (l==m)):P a b r:=by
 cases a <;>first|exact no e|skip
 ·exact ob e fun y h e=>cK (P:=fun b=>P _ b _) h (os (P:=fun v=>P _ _ v) e (k1 _ _))
 ·exact ob e fun y h e=>jw (P:=fun b=>P _ b _) h (os (P:=fun v=>P _ _ v) e (k2 _ _))
 ·exact ob e fun y h e=>ob e fun l h1 e=>ob e fun m h2 e=>fT (P:=fun b=>P _ b _) h (os (P:=fun v=>P _ _ v) e (k3 _ _ _ _ h1 h2))
theorem JC {a b:V} {r:Bool} {P:V→V→Bool→Prop} (e:Zb a b=some r) (k1:∀x y,P (.int x) (.int y) (x !=y)) (k2:∀x y,P (.str x) (.str y) (x !=y)):P a b r:=by
 cases a <;>first|exact no e|skip
 ·exact ob e fun y h e=>cK (P:=fun b=>P _ b _) h (os (P:=fun v=>P _ _ v) e (k1 _ _))
 ·exact ob e fun y h e=>jw (P:=fun b=>P _ b _) h (os (P:=fun v=>P _ _ v) e (k2 _ _))
theorem JD {a b:V} {r:Bool} {P:V→V→Bool→Prop} (e:ltV a b=some r) (k1:∀x y:Int,P (.int x) (.int y) (decide (x<y)))
  (k2:∀x y p q,Rq x=some p→Rq y=some q→P (.tup x) (.tup y) (aN p q)):P a b r:=by
 cases a <;>first|exact no e|skip
 ·exact ob e fun y h e=>cK (P:=fun b=>P _ b _) h (os (P:=fun v=>P _ _ v) e (k1 _ _))
 ·exact ob e fun y h e=>ob e fun l h1 e=>ob e fun m h2 e=>Bm (P:=fun b=>P _ b _) h (os (P:=fun v=>P _ _ v) e (k2 _ _ _ _ h1 h2))
theorem JE {a b:V} {r:Bool} {P:V→V→Bool→Prop} (e:Zc a b=some r) (k1:∀c k,P (.str [c]) (.fW k) (aQ k c))
  (k2:∀s xs l,bJ xs=some l→P (.str s) (.lst xs) (l.contains s)):P a b r:=by
 cases b <;>first|exact no e|skip
 ·exact ob e fun s h e=>ob e fun c h1 e=>jw (P:=fun a=>P a _ _) h (qQ (P:=fun s=>P (.str s) _ _) h1 (os (P:=fun v=>P _ _ v) e (k1 _ _)))
 ·exact ob e fun s h e=>ob e fun c h1 e=>jw (P:=fun a=>P a _ _) h (os (P:=fun v=>P _ _ v) e (k2 _ _ _ h1))
theorem Ck {x:List V} {p:Int×List Nat×Int} {P:List Value→Prop} (e:Rq x=some p) (r:aE X h Mu x vs) (k:∀t u w,P [.int p.1 t,.str (aC p.2.1) u,.int p.2.2 w]):P vs:=by
 match x,e with
 |[],e=>exact no e
 |[_],e=>exact no e
 |[_,_],e=>exact no e
 |_::_::_::_::_,e=>exact no e
 |[a,s,i],e=> refine ob e fun a' h1 e=>ob e fun s' h2 e=>ob e fun i' h3 e=>?_;refine os (P:=fun p=>(∀t u w,P [.int p.1 t,.str (aC p.2.1) u,.int p.2.2 w])→P vs) e (fun k=>?_) k;exact r.gM fun _ _ r1 r=>r.gM fun _ _ r2 r=>r.R6 fun _ r3=>fU h1 r1 fun t=>jD h2 r2 fun u _=>fU h3 r3 fun w=>k t u w
theorem Cm (G:Gd X) (hold:Kp X.h₀ s.heap) {op:Cp} {a b:V} {r:Bool} (hu:A.units<9000)
  (e:o5 op a b=some r) (ra:RV X s.heap Mu a va) (rb:RV X s.heap Mu b vb) (p:∀tk,Q (.bool r) {s with toks:=tk}):wpAny (model X.prog X.w) A (compareOp (Jz op) va vb) Q E s:=by
 have p0:Q (.bool r) s:=p s.toks;cases op with
 |eq=>
  refine JB (P:=fun a b r=>RV X s.heap Mu a va→RV X s.heap Mu b vb→Q (.bool r) s→_) e (fun x y ra rb p0=>?_) (fun x y ra rb p0=>?_) (fun x y l m h1 h2 ra rb p0=>?_) ra rb p0
  ·exact ra.eY fun t=>rb.eY fun u=>eq_int p0
  ·exact ra.gT fun t _=>rb.gT fun u _=>eq_str (by rw [iX];exact p0)
  ·exact ra.nC fun l1 vs _ hl _ r1=>rb.nC fun l2 us _ hl2 _ r2=>EJ hl hl2 (r1.ints h1) (r2.ints h2) hu p0
 |ne=>
  refine JC (P:=fun a b r=>RV X s.heap Mu a va→RV X s.heap Mu b vb→Q (.bool r) s→_) e (fun x y ra rb p0=>?_) (fun x y ra rb p0=>?_) ra rb p0
  ·exact ra.eY fun t=>rb.eY fun u=>ne_int p0
  ·refine ra.gT fun t _=>rb.gT fun u _=>ne_str ?_;rw [show ((aC x) !=(aC y))=(x !=y) from congrArg not (iX x y)];exact p0
 |lt=>
  refine JD (P:=fun a b r=>RV X s.heap Mu a va→RV X s.heap Mu b vb→Q (.bool r) s→_) e (fun x y ra rb p0=>?_) (fun x y k1 k2 h1 h2 ra rb p0=>?_) ra rb p0
  ·exact ra.eY fun t=>rb.eY fun u=>lt_int p0
  ·refine ra.j4 fun l1 vs _ hl _ r1=>rb.j4 fun l2 us _ hl2 _ r2=>?_;refine Ck (P:=fun vs=>IsTup s.heap l1 vs.toArray→_) h1 r1 (fun t1 t2 t3 hl=>?_) hl;refine Ck (P:=fun us=>IsTup s.heap l2 us.toArray→_) h2 r2 (fun u1 u2 u3 hl2=>?_) hl2;refine zO hl hl2 hu (r:=aN k1 k2) ?_ p0;rw [←JA k1.1 k2.1 k1.2.2 k2.2.2];exact .cons (EqAt.int_int _ _ _ _) (rS.int _ _ _ _ _ _) (.cons (EqAt.str_str _ _ _ _) (rS.str _ _ _ _ _ _) (.cons (EqAt.int_int _ _ _ _) (rS.int _ _ _ _ _ _) .nil))
 |le=>exact j5 e ra rb fun x y t u e=>le_int (os (P:=fun r=>Q (.bool r) s→_) e (fun q=>q) p0)
 |gt=>exact j5 e ra rb fun x y t u e=>gt_int (os (P:=fun r=>Q (.bool r) s→_) e (fun q=>q) p0)
 |ge=>exact j5 e ra rb fun x y t u e=>ge_int (os (P:=fun r=>Q (.bool r) s→_) e (fun q=>q) p0)
 |isin=>
  refine JE (P:=fun a b r=>RV X s.heap Mu a va→RV X s.heap Mu b vb→(∀tk,Q (.bool r) {s with toks:=tk})→_) e (fun c k ra rb p=>?_) (fun x ys l h1 ra rb p=>?_) ra rb p
  ·refine ra.gT fun t _=>rb.Jv ?_;obtain ⟨n,hn,hf⟩:=G.fW k;exact Jy (knd:=PySem.strKind X.prog X.w) (k:=aC [c]) (iW hf hold) (strKind_is _ _ _ _) rfl hn (p _)
  ·refine ra.gT fun t _=>rb.nC fun l1 vs _ hl _ r1=>?_;have hs:=aE.strs (s:=s) r1 h1;refine in_listAt (hits (aC x)) hl (fun y hy=>?_) ?_
   ·obtain ⟨z,u,rfl⟩:=StrsAre.mem hs y (by simpa using hy);exact EqAt.str_str _ _ _ _
   ·rw [List.any_toArray,StrsAre.hits hs,j6];exact p _
end
end
section
theorem mj (slice:Expr) (o i:Value):∃ops,subscripted slice false o i=operate ops (getItem o i):=by
 cases slice with
 |Slice a b c d=>cases c <;>exact ⟨_,rfl⟩
 |_=>exact ⟨_,rfl⟩
theorem wG:∀{b:Option V} {l:Option Nat} (_:bound b=some l),b=l.map fun n:Nat=>V.int (n:Int)
 |none,_,e=>by cases e;rfl
 |some _,_,e=>ob e fun _ hi e=>op e fun h e=>os (P:=fun l:Option Nat=>some _=Option.map (fun n:Nat=>V.int (n:Int)) l) e (cK (P:=fun v=>some v=_) hi (congrArg (fun z=>some (V.int z)) (Int.toNat_of_nonneg h.1).symm))
theorem uf (xs:List α) (lo hi:Option Nat):
  (sliceRange (match lo with|none=>0|some a=>max 0 (min (a:Int) xs.length)) (match hi with|none=>(xs.length:Int)|some b=>max 0 (min (b:Int) xs.length)) 1).filterMap (xs[·]?)=cut lo hi xs:=by
 obtain ⟨a,ha,hal⟩:∃a:Nat,(match lo with|none=>(0:Int)|some a=>max 0 (min (a:Int) xs.length))=(a:Int)∧a=min (lo.getD 0) xs.length:=by
  cases lo with
  |none=>exact ⟨0,rfl,by simp⟩
  |some a=>exact ⟨min a xs.length,Uh _ _,by simp⟩
 obtain ⟨b,hb,Ux⟩:∃b:Nat,(match hi with|none=>(xs.length:Int)|some b=>max 0 (min (b:Int) xs.length))=(b:Int)∧b=min (hi.getD xs.length) xs.length:=by
  cases hi with
  |none=>exact ⟨xs.length,rfl,by simp⟩
  |some b=>exact ⟨min b xs.length,Uh _ _,by simp⟩
 rw [ha,hb,PySem.sliceRange_one];unfold cut;have ht:(xs.take (hi.getD xs.length))=xs.take b:=by
  rw [Ux]
  by_cases h:hi.getD xs.length≤xs.length
  ·rw [Nat.min_eq_left h]
  ·rw [Nat.min_eq_right (by exact Bh h),List.take_of_length_le (by exact Bh h),List.take_of_length_le (by exact xV)]
 have hd:(xs.take b).drop (lo.getD 0)=(xs.take b).drop a:=by
  rw [hal]
  by_cases h:lo.getD 0≤xs.length
  ·rw [Nat.min_eq_left h]
  ·rw [Nat.min_eq_right (by exact Bh h),List.drop_of_length_le (by simp;exact Qj h),List.drop_of_length_le (by simp;exact Qk)]
 rw [ht,hd]
 by_cases hab:a≤b
 ·have:=StrLaws.picks xs (b-a) a (Ql Ux hab);rw [this,List.drop_take]
 ·have:b-a=0:=Qm hab;rw [this,List.drop_of_length_le (by simp;exact Qn this)];rfl
section
variable {X:Cx} {A:Around} {E:Value→Shared→Prop} {s:Shared} {Mu:List Addr} {Q:Value→Shared→Prop}
theorem gb {o i:Value} {T id:String} (hT:s.TypeIs o T) (hl:typeLookup (.type T) "__getitem__"=pure (some (.builtin id)))
  (hg:wpAny (model X.prog X.w) A (getItem o i) Q E s):wpAny (model X.prog X.w) A (subscriptTail value slice o i) Q E s:=by
 obtain ⟨ops,hs⟩:=mj slice o i;unfold subscriptTail;refine wpAny_bind ?_;rw [getitemInPython_of_ne hT.not_modules];refine wpAny_bind (wpAny_specialOf hT hl ?_);have fin:wpAny (model X.prog X.w) A (subscripted slice false o i) (fun r s₃=>wpAny (model X.prog X.w) A (letTemporaryGo value o r>>=fun _=>pure r) Q E s₃) E s:=by rw [hs];exact wpAny_operating (wpAny_mono hg (fun r s₃ h₃=>wpAny_bind (wpAny_letTemporaryGo (wpAny_pure h₃))) fun _ _ x=>x)
 first
  |exact wpAny_pure (wpAny_bind fin)
  |exact wpAny_bind (wpAny_pure (wpAny_bind fin))
  |exact wpAny_bind fin
theorem ug {b:V} (e:jf (.lst xs) b=some v) (hl:s.heap.IsList l vs.toArray) (r1:aE X s.heap Mu xs vs) (rb:RV X s.heap Mu b vb) (p:Post X Mu s v Q):
  wpAny (model X.prog X.w) A (subscriptTail value slice (.ref l) vb) Q E s:=by
 refine ob e fun i hi e=>fU hi rb fun t=>gb hl.typeIs slot_list_getitem.lookup ?_
 by_cases h0:0≤i
 ·refine op ((if_pos h0).symm.trans e) fun h1 e=>?_;obtain ⟨u,hu,ru⟩:=r1.get e;exact wpAny_getItem_list hl h0 h1 (by simpa using hu) (p.here ru)
 ·refine op ((if_neg h0).symm.trans e) fun h1 e=>?_;obtain ⟨u,hu,ru⟩:=r1.get e;have hn:=r1.length;refine wpAny_getItem_list_neg hl (Qi h0) (by simp;omega) h1.2 ?_ (p.here ru);simp only [List.size_toArray,List.getElem?_toArray,hn];exact hu
theorem R8 {i:Int} {n:Nat} (h:0≤i) (h2:i.toNat<n):seqIndex? i n=some i.toNat:=by unfold seqIndex?;have h3:¬i<0:=Int.not_lt.mpr h;simp only [h3,if_false];rw [if_pos (by simp;omega)]
theorem aZ {a b:V} (e:jf a b=some v) (ra:RV X s.heap Mu a va) (rb:RV X s.heap Mu b vb) (p:Post X Mu s v Q):
  wpAny (model X.prog X.w) A (subscriptTail value slice va vb) Q E s:=by
 cases a with
 |lst xs=>exact ra.nC fun l vs _ hl hz r1=>ug e hl r1 rb p
 |tup xs=> refine ob e fun i hi e=>op e fun h0 e=>fU hi rb fun t=>ra.j4 fun l vs _ hl hz r1=>?_;obtain ⟨u,hu,ru⟩:=r1.get e;have hj:i.toNat<vs.length:=(List.getElem?_eq_some_iff.mp hu).1;exact gb hl.typeIs slot_tuple_getitem.lookup (PyProof.Rows.getItem_tuple hl (j:=i.toNat) (Int.le_trans (by decide) h0.1) h0.2 (by rw [List.size_toArray];exact R8 h0.1 hj) (by simpa using hu) (p.here ru))
 |str x=> refine ob e fun i hi e=>op e fun h0 e=>fU hi rb fun u=>ra.gT fun t hx=>?_;obtain ⟨c,hc,rfl⟩:=Option.map_eq_some_iff.mp e;have hj:i.toNat<x.length:=(List.getElem?_eq_some_iff.mp hc).1;refine gb (typeIs_str s _ t) slot_str_getitem.lookup (PyProof.Rows.getItem_str (c:=c) (by simp;exact ⟨Int.le_trans (by decide) h0.1,h0.2⟩) ?_ (p.same _ ⟨_,rfl,by simp⟩));rw [str_len,R8 h0.1 hj];simpa using hc
 |_=>exact ob e fun _ _ e=>no e
noncomputable def cT (X:Cx) (h:Heap) (Mu:List Addr):Option V→Value→Prop
 |none,v=>v=.none
 |some b,v=>RV X h Mu b v
theorem fh {b:Option V} {l:Option Nat} {v:Value} (e:bound b=some l) (r:cT X s.heap Mu b v):∃q:Option (Int×Tok),v=partValue q∧q.map (·.1)=l.map fun n:Nat=>(n:Int):=by
 have:=wG e;subst this;cases l with
 |none=>exact ⟨none,r,rfl⟩
 |some n=> obtain ⟨t,rfl⟩:=r;exact ⟨some (n,t),rfl,rfl⟩
theorem jE (q:Option (Int×Tok)):IsPart (partValue q) (q.map (·.1)):=by
 cases q with
 |none=>exact .none
 |some x=>exact .int _ _
theorem yI (x:List Nat) (l h:Option Nat):(Builtin.Str.strSliceIndices (l.map fun n:Nat=>(n:Int)) (h.map fun n:Nat=>(n:Int)) 1 x.length).filterMap (x[·]?)=cut l h x:=by
 have hp:=uf x l h;rw [←hp];congr 1;unfold Builtin.Str.strSliceIndices;simp only [show ((1:Int)>0)=True from by simp,if_true];congr 1
 ·cases l with
  |none=>rfl
  |some n=>simp only [Option.map_some];rw [if_neg (by exact tO)]
 ·cases h with
  |none=>rfl
  |some n=>simp only [Option.map_some];rw [if_neg (by exact tO)]
theorem jn (l h:Option Nat) (x:List α):(cut l h x).length≤x.length:=by unfold cut;rw [List.length_drop,List.length_take];exact Qf
theorem Cn (l h:Option Nat) (x:List α) (e:(cut l h x).length=x.length):cut l h x=x:=by
 unfold cut at e⊢;rw [List.length_drop,List.length_take] at e
 by_cases hx:x.length=0
 ·have:x=[]:=List.length_eq_zero_iff.mp hx;subst this;simp
 ·have h1:l.getD 0=0:=Qg e hx;rw [h1,List.drop_zero,List.take_of_length_le (by exact Qh e)]
theorem Co (vs:List Value) (lo hi:Option Nat):slicePick vs.toArray (lo.map fun n:Nat=>(n:Int)) (hi.map fun n:Nat=>(n:Int)) none=(cut lo hi vs).toArray:=by
 have hp:=uf vs lo hi;unfold slicePick;rw [←hp];congr 1;have e:(fun x:Nat=>vs.toArray[x]?)=fun x:Nat=>vs[x]?:=by funext x;simp
 rw [e];congr 1;unfold sliceBounds;simp only [Option.getD_none,show ((1:Int)>0)=True from by simp,if_true,List.size_toArray];congr 1
 ·cases lo with
  |none=>rfl
  |some n=>simp only [Option.map_some];rw [if_neg (by exact tO)]
 ·cases hi with
  |none=>rfl
  |some n=>simp only [Option.map_some];rw [if_neg (by exact tO)]
theorem aE.cut {h:Heap} {xs:List V} {vs:List Value} (lo hi:Option Nat) (r:aE X h Mu xs vs):aE X h Mu (cut lo hi xs) (cut lo hi vs):=by unfold Mine.cut;rw [r.length];exact (r.take _).drop _
end
end
section
theorem Cq (xs:List α):((List.range xs.length).map fun k:Nat=>((xs.length:Int)-1+-1*(k:Int)).toNat).filterMap (xs[·]?)=xs.reverse:=by
 rw [List.filterMap_map];apply List.ext_getElem?;intro i;have key:∀m,m≤xs.length→(List.range m).filterMap ((fun x=>xs[x]?)∘fun k:Nat=>((xs.length:Int)-1+-1*(k:Int)).toNat)=xs.reverse.take m:=by
  intro m;induction m with
  |zero=>intro _;simp
  |succ m ih=> intro hm;rw [List.range_succ,List.filterMap_append,ih (by exact Oh hm),List.take_add_one];congr 1;have e:((xs.length:Int)-1+-1*(m:Int)).toNat=xs.length-1-m:=Ui hm;simp only [List.filterMap_cons,List.filterMap_nil,Function.comp_apply,e];rw [List.getElem?_reverse (by exact Hj hm)];have:xs.length-1-m<xs.length:=Ot hm;rw [List.getElem?_eq_getElem this];rfl
 rw [key xs.length (Nat.le_refl _),List.take_of_length_le (by simp)]
theorem lK {α:Type}:∀(fuel:Nat) (xs:List α),xs.length≤fuel→bA 7 fuel xs=((List.range ((xs.length+6)/7)).map fun k=>7*k).filterMap (xs[·]?)
 |0,[],_=>by kernel_rfl
 |0,_::_,h=>by simp at h
 |_+1,[],_=>by kernel_rfl
 |fuel+1,x::r,h=>by
  have h':r.length≤fuel:=by simpa using h
  rw [Bo,lK fuel _ (by rw [List.length_drop];exact Ol h')];have e:((x::r).length+6)/7=((r.drop 6).length+6)/7+1:=by rw [List.length_drop,List.length_cons];exact Va _
  rw [e,List.range_succ_eq_map,List.map_cons,List.filterMap_cons];simp only [Nat.mul_zero,List.getElem?_cons_zero];congr 1;rw [List.map_map,List.filterMap_map,List.filterMap_map];congr 1;funext k;simp only [Function.comp_apply,List.getElem?_drop];rw [show 7*Nat.succ k=(6+7*k)+1 by omega,List.getElem?_cons_succ]
theorem rX (vs:List Value) (a:Nat):slicePick vs.toArray (some (a:Int)) none (some 7)=(stride 7 (vs.drop a)).toArray:=by
 unfold stride;rw [lK _ _ (Nat.le_refl _)];unfold slicePick sliceBounds sliceRange;simp only [Option.getD_some,show ((7:Int)>0)=True from by simp,if_true,List.size_toArray];congr 1;have e:(fun x:Nat=>vs.toArray[x]?)=fun x:Nat=>vs[x]?:=by funext x;simp
 rw [e,if_neg (by exact tO),List.filterMap_map,List.filterMap_map]
 by_cases h:a<vs.length
 ·have e1:max 0 (min (a:Int) vs.length)=a:=Om h;rw [e1,if_pos (by exact Oq h),List.length_drop];have e2:(((vs.length:Int)-a+7-1)/7).toNat=(vs.length-a+6)/7:=Ov;rw [e2];congr 1;funext k;simp only [Function.comp_apply,List.getElem?_drop];rw [show ((a:Int)+7*(k:Int)).toNat=a+7*k by exact Ow]
 ·have e1:max 0 (min (a:Int) vs.length)=vs.length:=Ox h;rw [e1,if_neg (by exact Oz),List.drop_of_length_le (by exact OA e1)];rfl
theorem pA (vs:List Value):slicePick vs.toArray none none (some (-1))=vs.reverse.toArray:=by
 unfold slicePick sliceBounds sliceRange;simp only [Option.getD_some,show ((-1:Int)>0)=False from by simp,if_false,List.size_toArray];congr 1;have e:(fun x:Nat=>vs.toArray[x]?)=fun x:Nat=>vs[x]?:=by funext x;simp
 rw [e]
 by_cases h:vs.length=0
 ·have:vs=[]:=List.length_eq_zero_iff.mp h;subst this;rfl
 ·rw [if_pos (by exact Oi h)];have e2:(((vs.length:Int)-1- -1- -1-1)/ - -1).toNat=vs.length:=by simp only [Int.neg_neg];exact Oo
  rw [e2,Cq]
theorem Cr (x:List Nat) (L H:Option Nat) (h:(Builtin.Str.strSliceIndices (L.map fun n:Nat=>(n:Int)) (H.map fun n:Nat=>(n:Int)) 1 x.length).length=x.length):cut L H x=x:=by
 apply Cn;rw [←yI];have hk2:Builtin.Str.strSliceIndices (L.map fun n:Nat=>(n:Int)) (H.map fun n:Nat=>(n:Int)) 1 x.length=sliceRange (min (L.getD 0) x.length:Nat) (min (H.getD x.length) x.length:Nat) 1:=by
  unfold Builtin.Str.strSliceIndices;simp only [show ((1:Int)>0)=True from by simp,if_true];congr 1
  ·cases L with
   |none=>simp
   |some n=>simp only [Option.map_some,Option.getD_some];rw [if_neg (by exact tO)];exact Uh _ _
  ·cases H with
   |none=>simp
   |some n=>simp only [Option.map_some,Option.getD_some];rw [if_neg (by exact tO)];exact Uh _ _
 rw [hk2] at h⊢;rw [PySem.sliceRange_one] at h⊢;have hall:∀l:List Nat,(∀k∈l,k<x.length)→(l.filterMap (x[·]?)).length=l.length:=by
  intro l;induction l with
  |nil=>intro _;rfl
  |cons a l ih=> intro h;have ha:=h a (by simp);rw [List.filterMap_cons,List.getElem?_eq_getElem ha];simp only [List.length_cons];rw [ih fun k hk=>h k (by simp [hk])]
 rw [hall _ ?_,h];intro k hk;simp only [List.mem_map,List.mem_range] at hk;obtain ⟨m,hm,rfl⟩:=hk;exact Ou hm
section
variable {X:Cx} {A:Around} {E:Value→Shared→Prop} {s:Shared} {Mu:List Addr} {Q:Value→Shared→Prop}
theorem aE.bA {h:Heap} (n:Nat):∀(f:Nat) {xs:List V} {vs:List Value},aE X h Mu xs vs→aE X h Mu (bA n f xs) (bA n f vs)
 |0,_,_,_=>rfl
 |f+1,[],vs,r=>by cases (show vs=[] from r);exact rfl
 |f+1,x::xs,vs,r=>by obtain ⟨v,rr,rfl,p,q⟩:=r;exact aE.cons p (aE.bA n f (q.drop _))
theorem gc {α:Type} (n:Nat):∀(f:Nat) (xs:List α),(Mine.bA n f xs).length≤xs.length
 |0,_=>Nat.zero_le _
 |f+1,[]=>Nat.zero_le _
 |f+1,x::xs=>by show (x::Mine.bA n f (xs.drop (n-1))).length≤_;rw [List.length_cons,List.length_cons];have:=gc n f (xs.drop (n-1));rw [List.length_drop] at this;exact Oj this
noncomputable abbrev JF (s:Shared) (a b c:Value):Shared:={s with heap:=s.heap.push {cls:=.type "slice",data:=.fields #[a,b,c]}}
theorem uh {lo hi st:Option V} {vl vu vt:Value} (hM:∀a∈Mu,∃o,s.heap.get? a=some o)
  (e:jg (.lst xs) lo hi st=some v) (ho:s.heap.IsList l vs.toArray) (hz:vs.length≤16777216) (r1:aE X s.heap Mu xs vs) (rl:cT X s.heap Mu lo vl) (ru:cT X s.heap Mu hi vu) (rs:cT X s.heap Mu st vt)
  (p:Post X Mu s v Q):wpAny (model X.prog X.w) A (subscriptTail value slice (.ref l) (.ref s.heap.objs.size)) Q E (JF s vl vu vt):=by
 have hM':∀a∈Mu,∃o,(JF s vl vu vt).heap.get? a=some o:=fun a q=>by obtain ⟨o,h⟩:=hM a q;exact ⟨o,aA _ _ h⟩
 have ho':(JF s vl vu vt).heap.IsList l vs.toArray:=fN ho fun o h=>aA _ _ h;have fin:∀{us:List Value} {ys:List V} (L H S:Option Int),IsPart vl L→IsPart vu H→IsPart vt S→S≠some 0→slicePick vs.toArray L H S=us.toArray→us.length≤16777216→aE X s.heap Mu ys us→v=.lst ys→
   wpAny (model X.prog X.w) A (subscriptTail value slice (.ref l) (.ref s.heap.objs.size)) Q E (JF s vl vu vt):=by
  intro us ys L H S pl pu ps h0 hp hl hr hv;subst hv;refine gb ho'.typeIs slot_list_getitem.lookup (wpAny_getItem_list_slice ho' (Heap.IsSliceOf.new ..) pl pu ps h0 ?_ (by simp only [List.size_toArray,av];exact hz));rw [hp];exact p _ _ s.toks (fun b o hb=>aA _ _ (aA _ _ hb)) (gw hM' (hr.kp aA) hl)
 cases st with
 |none=> refine ob e fun L h1 e=>ob e fun H h2 e=>?_;cases e;cases (show vt=.none from rs);obtain ⟨q1,rfl,e1⟩:=fh h1 rl;obtain ⟨q2,rfl,e2⟩:=fh h2 ru;refine fin (us:=cut L H vs) (ys:=cut L H xs) _ _ none (jE q1) (jE q2) .none (fun q=>nomatch q) ?_ (Nat.le_trans (jn _ _ _) hz) (r1.cut L H) rfl;rw [e1,e2];exact Co vs L H
 |some st=>
  refine ob e fun k hk e=>?_;obtain ⟨t,rfl⟩:=cK (P:=fun st=>RV X s.heap Mu st vt→∃t,vt=.int k t) hk (fun r=>r) rs
  by_cases k1:k=-1
  ·refine op ((if_pos k1).symm.trans e) fun hl e=>op e fun hh e=>?_;cases e;subst k1;refine on (P:=fun lo=>cT X s.heap Mu lo vl→_) hl (fun rl=>?_) rl;refine on (P:=fun hi=>cT X s.heap Mu hi vu→_) hh (fun ru=>?_) ru;cases (show vl=.none from rl);cases (show vu=.none from ru);exact fin none none (some (-1)) .none .none (.int _ _) (by decide) (pA vs) (by simpa using hz) r1.reverse rfl
  ·refine op ((if_neg k1).symm.trans e) fun k7 e=>op e fun hh e=>ob e fun L h1 e=>ob e fun L hL e=>?_;cases e;subst k7 hL;refine on (P:=fun hi=>cT X s.heap Mu hi vu→_) hh (fun ru=>?_) ru;obtain ⟨q1,rfl,e1⟩:=fh h1 rl;cases (show vu=.none from ru);refine fin (us:=stride 7 (vs.drop L)) (ys:=stride 7 (xs.drop L)) _ none (some 7) (jE q1) .none (.int _ _) (by decide) ?_ ?_ ?_ rfl
   ·rw [e1];exact rX vs L
   ·refine Nat.le_trans (gc _ _ _) ?_;rw [List.length_drop];exact Hl hz
   ·have:=aE.bA 7 (vs.drop L).length (r1.drop L);unfold stride;have hn:(vs.drop L).length=(xs.drop L).length:=(r1.drop L).length;rw [hn] at this⊢;exact this
theorem mY {o:V} {lo hi st:Option V} {vo vl vu vt:Value} (hM:∀a∈Mu,∃o,s.heap.get? a=some o)
  (e:jg o lo hi st=some v) (ro:RV X s.heap Mu o vo) (rl:cT X s.heap Mu lo vl) (ru:cT X s.heap Mu hi vu) (rs:cT X s.heap Mu st vt)
  (p:Post X Mu s v Q):wpAny (model X.prog X.w) A (subscriptTail value slice vo (.ref s.heap.objs.size)) Q E (JF s vl vu vt):=by
 have hM':∀a∈Mu,∃o,(JF s vl vu vt).heap.get? a=some o:=fun a q=>by obtain ⟨o,h⟩:=hM a q;exact ⟨o,aA _ _ h⟩
 cases o with
 |lst xs=>exact ro.nC fun l vs _ hl hz r1=>uh hM e hl hz r1 rl ru rs p
 |str x=>
  cases st with
  |some st=>exact no e
  |none=>
   refine ob e fun L h1 e=>ob e fun H h2 e=>ro.gT fun t hx=>?_;cases e;cases (show vt=.none from rs);obtain ⟨q1,rfl,e1⟩:=fh h1 rl;obtain ⟨q2,rfl,e2⟩:=fh h2 ru;refine gb (typeIs_str _ _ t) slot_str_getitem.lookup (wpAny_getItem_str_slice (l:=q1) (u:=q2) (st:=none) ⟨_,Heap.get?_push_size _ rfl,rfl,rfl⟩ rfl ?_);have hpk:slicePicked (aC x) q1 q2 none=Builtin.Str.strSliceIndices (L.map fun n:Nat=>(n:Int)) (H.map fun n:Nat=>(n:Int)) 1 x.length:=by unfold slicePicked;rw [e1,e2,str_len];rfl
   have W3:(slicePicked (aC x) q1 q2 none).filterMap ((aC x).cps[·]?)=cut L H x:=by rw [hpk,←yI];congr 1;funext k;simp
   unfold sliceMade;split
   ·rename_i hb;have hb2:=(Bool.and_eq_true_iff.mp hb).2;have hlen:(slicePicked (aC x) q1 q2 none).length=x.length:=by simpa [str_len] using hb2
    have R9:cut L H x=x:=Cr x L H (by rw [←hpk];exact hlen);rw [R9] at p;exact p _ _ s.toks aA ⟨t,rfl,hx⟩
   ·show Str.length _≤sizeLine∧_;rw [W3];have hl:=Nat.le_trans (jn L H x) hx;refine ⟨?_,p _ _ _ aA ⟨_,rfl,hl⟩⟩;show (cut L H x).toArray.size≤sizeLine;rw [av];simpa using hl
 |tup xs=>
  cases st with
  |some st=>exact no e
  |none=>
   refine ob e fun L h1 e=>ob e fun L hL e=>op e fun hh e=>op e fun hb e=>ro.j4 fun a vs _ ht hz r1=>?_;cases e;subst hL;refine on (P:=fun hi=>cT X s.heap Mu hi vu→_) hh (fun ru=>?_) ru;cases (show vu=.none from ru);cases (show vt=.none from rs);obtain ⟨q1,rfl,e1⟩:=fh h1 rl;cases q1 with
   |none=>cases e1
   |some q=> obtain ⟨i,u⟩:=q;cases e1;have ht':IsTup (JF s (partValue (some ((L:Int),u))) .none .none).heap a vs.toArray:=Ce ht fun o h=>aA _ _ h;have hlen:=r1.length;refine gb ht'.typeIs slot_tuple_getitem.lookup (getItem_tuple_from ht' (Heap.IsSliceOf.new ..) hb.1 (by simp;exact OB hb hlen) ?_ (by simp only [List.size_toArray,av];exact hz));refine p _ _ s.toks (fun b o hb=>aA _ _ (aA _ _ hb)) (kU (vs:=vs.drop L) hM' ((r1.kp aA).drop L) ?_);rw [List.length_drop];exact Hl hz
 |_=>
  cases st with
  |none=>exact no e
  |some _=>exact no e
end
end
end
section
open PyProof.Rows PySem.Calls PySem.SeqAt PySem.Builtin PySem.Builtin.Str
theorem JG (x:Str):aC x.cps.toList=x:=by apply Str.ext';simp
theorem rY (sep:List Nat):∀l:List (List Nat),Str.join (aC sep) (l.map aC)=aC (cu sep l)
 |[]=>rfl
 |[x]=>rfl
 |x::y::r=>by show aC x++aC sep++Str.join (aC sep) ((y::r).map aC)=_;rw [rY sep (y::r),mG,mG];rfl
theorem Cs (sep:List Nat) (l:List (List Nat)):Txt.join (aC sep) (l.map aC)=aC (cu sep l):=by unfold Txt.join;rw [StrLaws.glued_eq_join,rY]
theorem lM (c:Nat):∀w:List Nat,c∉w→aI c w=[w]
 |[],_=>rfl
 |a::r,h=>by have h1:a≠c:=fun e=>h (by simp [e]);have h2:c∉r:=fun e=>h (List.mem_cons_of_mem _ e);rw [aI,if_neg h1,lM c r h2]
theorem nD (c:Nat) (t:List Nat):∀w:List Nat,c∉w→aI c (w++c::t)=w::aI c t
 |[],_=>by simp [aI]
 |a::r,h=>by have h1:a≠c:=fun e=>h (by simp [e]);have h2:c∉r:=fun e=>h (List.mem_cons_of_mem _ e);show aI c (a::(r++c::t))=_;rw [aI,if_neg h1,nD c t r h2]
theorem lN (c:Nat):∀l:List (List Nat),l≠[]→(∀p∈l,c∉p)→aI c (cu [c] l)=l
 |[],h,_=>absurd rfl h
 |[x],_,h=>lM c x (h x (by simp))
 |x::y::r,_,h=>by show aI c (x++[c]++cu [c] (y::r))=_;rw [List.append_assoc,List.singleton_append,nD c _ x (h x (by simp)),lN c (y::r) (by simp) fun p hp=>h p (List.mem_cons_of_mem _ hp)]
theorem qd (c:Nat) (x:List Nat):Txt.split (aC x) (aC [c])=(aI c x).map aC:=by
 have h1:=StrLaws.join_split (aC x) (aC [c]);have h2:=StrLaws.split_free (aC x) c;have h3:=split_pos (aC x) (aC [c])
 obtain ⟨l,hl⟩:∃l:List (List Nat),Txt.split (aC x) (aC [c])=l.map aC:=⟨(Txt.split (aC x) (aC [c])).map fun s=>s.cps.toList,by
  rw [List.map_map];have:(aC∘fun s:Str=>s.cps.toList)=_root_.id:=by funext s;exact JG s
  rw [this,List.map_id]⟩
 have h2':∀p∈l,c∉p:=fun p hp=>by have:=h2 (aC p) (by show _∈Txt.split (aC x) (aC [c]);rw [hl];exact List.mem_map_of_mem hp);simpa using this
 rw [hl] at h1 h3⊢;rw [rY] at h1;have Sa:cu [c] l=x:=by have:=congrArg (fun s:Str=>s.cps.toList) h1;simpa using this
 have hne:l≠[]:=fun e=>by subst e;simp at h3
 rw [←Sa,lN c l hne h2']
theorem jo (c:Nat):∀x:List Nat,(aI c x).length≤x.length+1
 |[]=>by simp [aI]
 |a::r=>by
  have ih:=jo c r;unfold aI;split
  ·simp;omega
  ·split
   ·rename_i e;rw [e] at ih;simp at ih⊢;exact Bg ih
   ·simp
theorem lO (c:Nat):∀x:List Nat,∀p∈aI c x,p.length≤x.length
 |[],p,h=>by simp [aI] at h;simp [h]
 |a::r,p,h=>by
  have ih:=lO c r;unfold aI at h;split at h
  ·rcases List.mem_cons.mp h with rfl|h
   ·simp
   ·have:=ih p h;simp;exact Bg this
  ·split at h
   ·rename_i w ws e;rcases List.mem_cons.mp h with rfl|h
    ·have:=ih w (by rw [e];simp);simp;omega
    ·have:=ih p (by rw [e];simp [h]);simp;exact Bg this
   ·simp at h;subst h;simp
theorem qe (c:Nat):∀x:List Nat,cnt c x=(x.count c:Int)
 |[]=>rfl
 |a::r=>by
  rw [cnt_cons,qe c r,List.count_cons]
  by_cases h:a=c <;>simp [h] <;>exact PK
theorem zP (c:Nat) (x:List Nat):Txt.count (aC x) (aC [c])=(x.count c:Int):=by rw [show aC [c]=⟨#[c]⟩ from rfl,count_cnt,qe]
theorem wH (c:Nat) (x:List Nat):Txt.startswith (aC x) (aC [c])=(x.head?==some c):=by
 unfold Txt.startswith
 rw [Bool.eq_iff_iff];have:=StrLaws.subAt_one (aC x) c 0;simp only [Bool.and_eq_true,decide_eq_true_eq];rw [show ((aC [c]):Str)=⟨#[c]⟩ from rfl,this];cases x <;>simp
theorem Ct (c:Nat) (x:List Nat):Txt.endswith (aC x) (aC [c])=(x.getLast?==some c):=by
 unfold Txt.endswith
 rw [Bool.eq_iff_iff];simp only [Bool.and_eq_true,decide_eq_true_eq];rw [show ((aC [c]):Str)=⟨#[c]⟩ from rfl,str_len];show (0+1≤x.length∧subAt (aC x) ⟨#[c]⟩ (x.length-1)=true)↔_;have:=StrLaws.subAt_one (aC x) c (x.length-1);rw [str_len] at this;have e1:(⟨#[c]⟩:Str).length=1:=rfl;have this:x.length-1+1≤x.length∧subAt (aC x) ⟨#[c]⟩ (x.length-1)=true↔x[x.length-1]?=some c:=by rw [str_len] at this;simpa using this
 rw [List.getLast?_eq_getElem?];constructor
 ·rintro ⟨h1,h2⟩;have:=this.mp ⟨by exact PO h1,h2⟩;simpa using this
 ·intro h;have h:=this.mpr (by simpa using h);exact ⟨by omega,h.2⟩
theorem iY (c:Nat):∀(l:List Nat) (i:Nat),l.findIdx? (·==c)=some i→l[i]?=some c∧∀k,k<i→l[k]?≠some c
 |[],i,h=>by simp at h
 |a::r,i,h=>by
  rw [List.findIdx?_cons] at h
  by_cases q:a=c
  ·simp [q] at h;subst h;simp [q]
  ·simp [q] at h;obtain ⟨j,hj,rfl⟩:=h;obtain ⟨h1,h2⟩:=iY c r j hj;refine ⟨by simpa using h1,fun k hk=>?_⟩;cases k with
   |zero=>simpa using q
   |succ k=>simpa using h2 k (zz hk)
theorem find_none (c:Nat) (l:List Nat) (h:l.findIdx? (·==c)=none):∀k:Nat,l[k]?≠some c:=by intro k hk;have hm:=List.mem_of_getElem? hk;have:=List.findIdx?_eq_none_iff.mp h c hm;simp at this
theorem zQ (c:Nat) (x:List Nat):Txt.rfind (aC x) (aC [c])=vX c x:=by
 unfold Txt.rfind vX;rw [show ((aC [c]):Str)=⟨#[c]⟩ from rfl];have JH:∀i,StrLaws.At (aC x) ⟨#[c]⟩ (aC x).length i↔x[i]?=some c:=fun i=>by have:=StrLaws.subAt_one (aC x) c i;unfold StrLaws.At;rw [this]
 have rev:∀i,i<x.length→x.reverse[x.length-1-i]?=x[i]?:=fun i hi=>by rw [List.getElem?_reverse (by exact PM hi)];congr 1;exact PT hi
 rcases StrLaws.last_spec (aC x) ⟨#[c]⟩ with ⟨h0,hn⟩|⟨i,h0,hi,hn⟩
 ·rw [h0];cases hf:x.reverse.findIdx? (·==c) with
  |none=>rfl
  |some j=>
   exfalso;obtain ⟨h1,_⟩:=iY c _ _ hf;have hm:c∈x:=by have:=List.mem_of_getElem? h1;simpa using this
   obtain ⟨k,hk⟩:=List.getElem?_of_mem hm;exact hn k ((JH k).mpr hk)
 ·rw [h0];have hi':=(JH i).mp hi;have hlt:i<x.length:=(List.getElem?_eq_some_iff.mp hi').1;cases hf:x.reverse.findIdx? (·==c) with
  |none=>exact absurd (by rw [rev i hlt];exact hi') (find_none c _ hf (x.length-1-i))
  |some j=>
   obtain ⟨h1,h2⟩:=iY c _ _ hf;have hj:j<x.length:=by have:=(List.getElem?_eq_some_iff.mp h1).1;simpa using this
   have Sa:x[x.length-1-j]?=some c:=by rw [List.getElem?_reverse hj] at h1;exact h1
   have a1:¬i<x.length-1-j:=fun q=>hn _ q ((JH _).mpr Sa);have a2:¬x.length-1-i<j:=fun q=>h2 _ q (by rw [rev i hlt];exact hi');show (i:Int)=(x.length:Int)-1-j;exact PV hlt a1 a2
theorem wI (c:Nat) (x:List Nat):Txt.rstripChars (aC x) (aC [c])=aC (iR c x):=by
 unfold Txt.rstripChars Txt.stripBy;have key:Builtin.Str.strSub (aC x) 0 ((aC x).length-(x.reverse.takeWhile ((aC [c]).cps.contains)).length)=aC (iR c x):=by
  apply Str.ext';apply Array.toList_inj.mp;rw [StrLaws.strSub_toList,str_len];simp only [List.drop_zero,Nat.sub_zero,iR];have e:((aC [c]).cps.contains:Nat→Bool)=(fun z=>z==c):=by funext z;simp only [List.contains_toArray,List.contains_cons,List.contains_nil,Bool.or_false]
  rw [e];generalize hp:(fun z:Nat=>z==c)=p;have h1:x.reverse=x.reverse.takeWhile p++x.reverse.dropWhile p:=(List.takeWhile_append_dropWhile).symm;have h2:x=(x.reverse.dropWhile p).reverse++(x.reverse.takeWhile p).reverse:=by have:=congrArg List.reverse h1;rw [List.reverse_reverse,List.reverse_append] at this;exact this
  have h3:x.length-(x.reverse.takeWhile p).length=(x.reverse.dropWhile p).reverse.length:=by have:=congrArg List.length h1;rw [List.length_append,List.length_reverse] at this;rw [List.length_reverse];exact PN this
  rw [h3]
  conv=>lhs;rw [h2]
  simp
 split
 ·rename_i h;simp only [stripSame,stripLo,stripHi,Bool.false_eq_true,if_false,if_true,Bool.and_eq_true,beq_iff_eq] at h;have h2:=h.2;have e0:(aC x).cps.toList.drop 0=x:=by simp
  rw [e0] at h2;rw [←key,h2];exact (StrLaws.sub_whole _).symm
 ·show Builtin.Str.strSub (aC x) 0 _=_;rw [←key];congr 1
theorem zR (c:Nat) (x:List Nat) (lo k:Nat) (h:(x.drop lo).findIdx? (·==c)=some k):∃rest,occurrences (aC x) (aC [c]) lo (aC x).length 1=(lo+k)::rest:=by
 have JH:∀i,StrLaws.At (aC x) (aC [c]) (aC x).length i↔x[i]?=some c:=fun i=>by have:=StrLaws.subAt_one (aC x) c i;unfold StrLaws.At;rw [show ((aC [c]):Str)=⟨#[c]⟩ from rfl,this]
 obtain ⟨h1,h2⟩:=iY c _ _ h;rw [List.getElem?_drop] at h1;have hlt:lo+k<x.length:=(List.getElem?_eq_some_iff.mp h1).1;rw [StrLaws.occ_eq];rcases StrLaws.occ_first (aC x) (aC [c]) (aC x).length 1 (Nat.le_refl 1) (List.range' lo ((aC x).length+1-lo)) lo (fun i hi=>by simp [List.mem_range'] at hi;omega) with ⟨_,hn⟩|⟨pre,a,post,e,h0,ha,hn⟩
 ·exfalso;refine hn (lo+k) ?_ ((JH _).mpr h1);simp [List.mem_range',str_len];exact PR hlt
 ·have ha':=(JH a).mp ha;have hmem:a∈List.range' lo ((aC x).length+1-lo):=by rw [e];simp
  have hla:lo≤a:=by simp [List.mem_range'] at hmem;omega
  have hpre:pre.length=a-lo:=by
   have hq:(List.range' lo ((aC x).length+1-lo))[pre.length]?=some a:=by rw [e];simp
   have hL:(aC x).length+1-lo=pre.length+(post.length+1):=by have:=congrArg List.length e;simpa using this
   rw [List.getElem?_range' (by exact PU hL)] at hq;simp at hq;exact PW hq
  have e1:a=lo+k:=by
   have a1:¬a<lo+k:=fun q=>h2 (a-lo) (PX hla q) (by rw [List.getElem?_drop,show lo+(a-lo)=a by exact PY hla];exact ha');have a2:¬lo+k<a:=fun q=>by
    refine hn (lo+k) ?_ ((JH _).mpr h1);have hL:(aC x).length+1-lo=pre.length+(post.length+1):=by have:=congrArg List.length e;simpa using this
    have hq:(List.range' lo ((aC x).length+1-lo))[k]?=pre[k]?:=by rw [e,List.getElem?_append_left (by exact PZ hpre q)]
    rw [List.getElem?_range' (by exact P0 hpre q hL)] at hq;simp at hq;exact List.mem_of_getElem? hq.symm
   exact P4 a1 a2
  subst e1;generalize (forIn (List.range' lo ((aC x).length+1-lo)) ((#[]:Array Nat),lo) (StrLaws.occBody (aC x) (aC [c]) (aC x).length 1)).run.fst=r at h0;obtain ⟨l⟩:=r;cases l with
  |nil=>simp at h0
  |cons b t=>simp at h0;subst h0;exact ⟨t,rfl⟩
section
theorem cU:plainId "frozenset.isdisjoint.loop"=true:=by decide+kernel
theorem iD:entryFor table "frozenset.isdisjoint.loop"=some Builtin.«frozenset.isdisjoint.loop»:=entryFor_of_fast (by kernel_rfl)
theorem nE:Slot "frozenset" "isdisjoint" "frozenset.isdisjoint":=
 .of (owner:="frozenset") (n:="isdisjoint") (by rw [typeLookup_type,builtinLookup_eq_fast];kernel_rfl) (by decide+kernel) (by decide+kernel) (by decide+kernel)
  (by first|exact .inl (by decide+kernel)|exact .inr (by decide+kernel)) (by rw [isSubtype_type];kernel_rfl)
theorem Cu:typeOf (.builtin "frozenset.isdisjoint")=pure (.type "method_descriptor"):=by show builtinType _=_;rw [builtinType_eq_fast];kernel_rfl
theorem zS:entryFor table "frozenset.isdisjoint"=some Builtin.«frozenset.isdisjoint»:=entryFor_of_tree (by kernel_rfl)
theorem Cv (a b:Value):argsOk "frozenset.isdisjoint" ⟨[a,b],[]⟩:=by unfold argsOk;rw [signature?_of (id:="frozenset.isdisjoint") (n:=['t','n','i','o','j','s','i','d','s','i']) (o:=['t','e','s','n','e','z','o','r','f']) (by kernel_rfl) FB.owner_frozenset];kernel_rfl
section
variable {X:Cx} {A:Around} {E:Value→Shared→Prop} {s:Shared} {Mu:List Addr} {Q:Value→Shared→Prop}
theorem pB {K:Type} [DecidableEq K] {knd:PySem.KeyKind X.prog X.w K} {S:K→Bool} {n:Nat} {k:K} {key:Value} {Q:Bool→Shared→Prop} (hS:FrozAt knd s.heap a S n) (hkey:knd.is k key=true) (hsc:key.scannable=true) (hb:n<4096)
  (h:Q (S k) {s with toks:=s.toks+1}):wpAny (model X.prog X.w) A (setContains a key) Q E s:=by
 obtain ⟨es,ep,t,ho,hel,hmem,hn,hf⟩:=hS;unfold setContains;refine wpAny_holding ?_;refine wpAny_bind (knd.pyHash hkey ?_);refine wpAny_bind (setFind_any (s:={s with toks:=s.toks+1}) hkey hsc ho rfl hel hmem (by rw [hn];exact hb) hf fun r hr=>?_);refine wpAny_pure ?_;rw [hr];exact h
theorem Cw {k:Nat} {x:List Nat} {n:Nat} {I:Addr} {wr:List Addr} (W:Walks X.prog X.w A.in1 I fp wr x.length (SignAt (aC x)) St)
  (hn:n<4096) (haw:a∉wr):∀(j i:Nat) (s:Shared),x.length-i=j→i≤x.length→St i s.heap→FrozAt (PySem.strKind X.prog X.w) s.heap a (wD k) n→
  (∀h' tk,(∀b o,b∉wr→s.heap.get? b=some o→h'.get? b=some o)→R (.ok (.ret (.bool ((x.drop i).all fun c=>!aQ k c)))) {s with heap:=h',toks:=tk})→
  codeAny (model X.prog X.w) A (.builtin "frozenset.isdisjoint.loop" ⟨[.ref a,.ref I],[]⟩) R s:=by
 intro j;induction j with
 |zero=> intro i s hk hi hst hS hR;have hin:i=x.length:=Rf hk hi;subst hin;refine codeAny_builtin iD ?_;rw [Around.under_plainId cU _];show wpAny _ A.in1 (pyNext (.ref I)>>=_) _ _ s;refine wpAny_bind (W.done s _ _ hst fun h' tk hk'=>?_);refine wpAny_pure ?_;have:=hR h' tk hk';rw [List.drop_length] at this;exact this
 |succ j ih=>
  intro i s hk hi hst hS hR;have hlt:i<x.length:=Rg hk;have hd:x.drop i=x[i]::x.drop (i+1):=List.drop_eq_getElem_cons hlt;refine codeAny_builtin iD ?_;rw [Around.under_plainId cU _];show wpAny _ A.in1 (pyNext (.ref I)>>=_) _ _ s;refine wpAny_bind (W.item i s _ _ hlt hst fun v h' tk hP W4 hk'=>?_);obtain ⟨c,t,hc,rfl⟩:=hP;have hc':x[i]=c:=by
   have:(aC x).cps[i]?=some x[i]:=by simp [hlt]
   rw [this] at hc;cases hc;rfl
  have hS':FrozAt (PySem.strKind X.prog X.w) h' a (wD k) n:=by obtain ⟨es,ep,t,ho,q⟩:=hS;exact ⟨es,ep,t,hk' _ _ haw ho,q⟩
  refine wpAny_bind (wpAny_holding (pB (knd:=PySem.strKind X.prog X.w) (k:=aC [c]) hS' (strKind_is _ _ _ _) rfl hn ?_));have hmem:wD k (aC [c])=aQ k c:=rfl;rw [hmem];cases hb:aQ k c with
  |false=> refine wpAny_pure ⟨plainId_quiet cU _,ih (i+1) _ (Rh hk) hlt W4 hS' fun h'' W5 W6=>?_⟩;have:=hR h'' W5 fun b o Mb e=>W6 b o Mb (hk' b o Mb e);rw [hd,List.all_cons,hc',hb] at this;exact this
  |true=> refine wpAny_pure ?_;have:=hR h' (tk+1) hk';rw [hd,List.all_cons,hc',hb] at this;exact this
theorem Cy (hh:A.handled=none) {k n:Nat} {x:List Nat} {t:Tok} (hS:FrozAt (PySem.strKind X.prog X.w) s.heap a (wD k) n) (hn:n<4096)
  (p:∀h' tk,Kp s.heap h'→Q (.bool (x.all fun c=>!aQ k c)) {s with heap:=h',toks:=tk}):wpAny (model X.prog X.w) A (call (.builtin "frozenset.isdisjoint") [.ref a,.str (aC x) t]) Q E s:=by
 obtain ⟨es,ep,tt,ho,hrest⟩:=id hS;have hT:s.TypeIs (.ref a) "frozenset":=⟨_,ho,rfl⟩;refine wpAny_call (codeAny_call_builtin nE.plain zS (nE.check _ _ _ _ _ _ _ _ hT (Cv _ _) ?_));unfold Builtin.«frozenset.isdisjoint» Builtin.Frozenset.oneOther;simp only [List.isEmpty_nil,bind_assoc];unfold Builtin.Frozenset.addrOf;refine wpAny_bind (wpAny_pure ?_)
 try dsimp only
 try refine wpAny_bind (wpAny_pure ?_)
 try dsimp only
 rw [if_neg (by intro h;exact absurd h (by simp [BEq.beq];try rfl))];refine wpAny_bind (wpAny_typeOf (typeIs_str s _ t) ?_);rw [if_neg (by decide)];refine wpAny_bind (wpAny_pyIter_str fun o St hW hst=>?_);refine wpAny_pure ⟨plainId_quiet cU _,?_⟩;have hW':=hW A.in1 (by simpa using hh);have hsz:(aC x).cps.size=x.length:=by simp
 rw [hsz] at hW';have hlt:a<s.heap.objs.size:=Heap.lt_size ho;refine Cw (k:=k) (n:=n) hW' hn (fun q=>Nat.ne_of_lt hlt (List.mem_singleton.mp q)) x.length 0 _ (by simp) (Nat.zero_le _) hst (iW hS aA) fun h' tk hk=>?_;exact p h' tk fun b o e=>hk b o (fun q=>Nat.ne_of_lt (Heap.lt_size e) (List.mem_singleton.mp q)) (aA _ _ e)
end
end
section
theorem kX (x y:Str) (i:Int) (t u v:Tok) (k:Nat) (rest:List Nat) (h:occurrences x y (fromIndex x.length i) x.length 1=k::rest):Gives («str.index» ⟨[.str x t,.str y u,.int i v],[]⟩) (.int k):=by show Gives (match occurrences x y (fromIndex x.length i) (min x.length x.length) 1 with|k::_=>retInt k|[]=>(do rule "str.index.not-found";raiseError "ValueError" "substring not found")) _;rw [Nat.min_self,h];exact .of_eq rfl
section
variable {X:Cx} {A:Around} {E:Value→Shared→Prop} {s:Shared} {Mu:List Addr} {Q:Value→Shared→Prop}
theorem aE.ofStrs {h:Heap}:∀{l:List (List Nat)} {ps:List (Str×Tok)},ps.map (·.1)=l.map aC→(∀p∈l,p.length≤16777216)→aE X h Mu (l.map .str) (strValues ps)
 |[],[],_,_=>rfl
 |[],_::_,e,_=>by simp at e
 |_::_,[],e,_=>by simp at e
 |a::l,p::ps,e,hl=>by simp only [List.map_cons,List.cons.injEq] at e;show aE X h Mu (.str a::l.map .str) (.str p.1 p.2::strValues ps);refine aE.cons ⟨p.2,by rw [e.1],hl a (by simp)⟩ (aE.ofStrs e.2 fun q hq=>hl q (by simp [hq]))
theorem wJ {x y:Str} {t u:Tok} (hy:(y.length==0)=false) (hsz:x.length≤sizeLine) (hn:(Txt.split x y).length≤sizeLine)
  (h:∀(l:List (Str×Tok)) k,l.map (·.1)=Txt.split x y→Q (.ref s.heap.objs.size) {s with heap:=s.heap.push {cls:=.type "list",data:=.seq (strValues l).toArray},toks:=k}):
  wpAny (model X.prog X.w) A (call (.builtin "str.split") [.str x t,.str y u]) Q E s:=by
 cases h1:(decide (x.length<y.length)||decide (strKind x<strKind y))
 ·cases hf:(occurrences x y 0 x.length (x.length+1)).isEmpty
  ·have hs:Txt.split x y=partsBetween x (occurrences x y 0 x.length (x.length+1)) y.length:=(if_neg (ne_true_of_eq_false h1)).trans (if_neg (ne_true_of_eq_false hf));refine call_meets F.slot_str_split (typeIs_str _ _ _) F.entry_str_split (F.args_str_split_2 _ _) (meets_str_split_sep x y t u h1 hy hf hsz (by rw [←hs];exact hn)) ?_;show wants Q E _ {s with toks:=_,heap:=s.heap.push {cls:=.type "list",data:=.seq (strsFrom s.toks (partsBetween x (occurrences x y 0 x.length (x.length+1)) y.length)).toArray}};rw [strsFrom_eq];exact h (numbered s.toks _) _ ((numbered_texts _ _).trans hs.symm)
  ·exact call_meets F.slot_str_split (typeIs_str _ _ _) F.entry_str_split (F.args_str_split_2 _ _) (meets_str_split_not_found x y t u h1 hy hf)
    (h [(x,t)] s.toks ((if_neg (ne_true_of_eq_false h1)).trans (if_pos hf)).symm)
 ·exact call_meets F.slot_str_split (typeIs_str _ _ _) F.entry_str_split (F.args_str_split_2 _ _) (meets_str_split_cannot_occur x y t u h1)
   (h [(x,t)] s.toks (if_pos h1).symm)
noncomputable def wK:MT→String
 |.split=>"str.split"|.join=>"str.join"|.rfind=>"str.rfind"|.rstrip=>"str.rstrip"|.startswith=>"str.startswith"|.endswith=>"str.endswith"
 |.count=>"str.count"|.index=>"str.index"|.bP=>"frozenset.isdisjoint"
noncomputable def wL:MT→Str
 |.split=>"split"|.join=>"join"|.rfind=>"rfind"|.rstrip=>"rstrip"|.startswith=>"startswith"|.endswith=>"endswith"
 |.count=>"count"|.index=>"index"|.bP=>"isdisjoint"
noncomputable def nF:MT→String
 |.bP=>"frozenset"
 |_=>"str"
theorem zT (k:MT):Slot (nF k) (wL k) (wK k):=by
 cases k
 ·exact F.slot_str_split
 ·exact F.slot_str_join
 ·exact F.slot_str_rfind
 ·exact F.slot_str_rstrip
 ·exact F.slot_str_startswith
 ·exact F.slot_str_endswith
 ·exact F.slot_str_count
 ·exact F.slot_str_index
 ·exact nE
theorem zU (k:MT):typeOf (.builtin (wK k))=pure (.type "method_descriptor"):=by
 cases k
 ·exact F.type_str_split
 ·exact F.type_str_join
 ·exact F.type_str_rfind
 ·exact F.type_str_rstrip
 ·exact F.type_str_startswith
 ·exact F.type_str_endswith
 ·exact F.type_str_count
 ·exact F.type_str_index
 ·exact Cu
theorem wM (c:Nat) (x:List Nat):(iR c x).length≤x.length:=by unfold iR;rw [List.length_reverse];have:=List.dropWhile_sublist (l:=x.reverse) (p:=(·==c));have:=this.length_le;simpa using this
theorem um (sep:List Nat):∀l:List (List Nat),(cu sep l).length≤(l.map List.length).sum+l.length*sep.length
 |[]=>by simp [cu]
 |[x]=>by simp [cu]
 |x::y::r=>by have:=um sep (y::r);show (x++sep++cu sep (y::r)).length≤_;rw [List.length_append,List.length_append];simp only [List.map_cons,List.sum_cons,List.length_cons,Nat.succ_mul] at this⊢;exact Qv this
@[elab_as_elim] theorem iZ {args:List V} {P:List Value→Prop} (e:vZ args=some c) (ra:aE X h Mu args jC) (k:∀u,P [.str (aC [c]) u]):P jC:= fc e ra fun a y e2 ry=>ob e2 fun l e3 e4=>jD e3 ry fun u _=>qQ (P:=fun l=>P [.str (aC l) u]) e4 (k u)
theorem rZ (n:Nat) {i:Int} (h:0≤i):fromIndex n i=i.toNat:=by unfold fromIndex;rw [if_neg (Int.not_lt.mpr h),Int.max_eq_right h]
theorem zV {i:Int} (k:Nat) (h:0≤i):((i.toNat+k:Nat):Int)=i+k:=by rw [Int.natCast_add,Int.toNat_of_nonneg h]
theorem jV (G:Gd X) (hold:Kp X.h₀ s.heap) (hh:A.handled=none) (hM:∀a∈Mu,∃o,s.heap.get? a=some o) {k:MT} {o:V} {args:List V} {vo:Value}
  (e:lF k o args=some v) (ro:RV X s.heap Mu o vo) (ra:aE X s.heap Mu args jC) (p:Post X Mu s v Q):
  wpAny (model X.prog X.w) A (call (.builtin (wK k)) (vo::jC)) Q E s:=by
 cases o <;>first|exact no e|skip
 ·rename_i x;refine ro.gT fun t hx=>?_;clear ro;cases k with
  |split=> refine ob e fun c hc e=>iZ hc ra fun u=>oi e fun hz e=>?_;have hl:=jo c x;have hz:=bH hz;refine wJ rfl (by rw [str_len,av];exact hx) (by rw [qd,List.length_map,av];exact Nat.le_trans hl hz) fun l k hk=>?_;rw [qd] at hk;refine os (P:=fun v=>Post X Mu s v Q→_) e (fun p=>p _ _ k aA (gw hM (aE.ofStrs hk fun q hq=>Nat.le_trans (lO c x q hq) hx) ?_)) p;have:=congrArg List.length hk;simp only [List.length_map] at this;unfold strValues;rw [List.length_map,this];exact Nat.le_trans hl hz
  |join=>
   refine ob e fun xs h2 e=>ob e fun l hs e=>oi e fun hok e=>fc h2 ra fun a y e2 ry=>wA e2 ry fun a vs _ hl hz r1=>?_;have hok:=bH hok;refine join_list hl (aE.strs (s:=s) r1 hs) ?_ fun t' k=>?_
   ·rw [List.map_map,List.length_map,str_len];have:((fun x:Str=>x.length)∘aC)=List.length:=funext str_len;rw [this];exact hok
   ·rw [Cs];exact os (P:=fun v=>Post X Mu s v Q→_) e (fun p=>p.same _ ⟨t',rfl,Nat.le_trans (um _ _) hok⟩) p
  |rfind=> refine ob e fun c hc e=>iZ hc ra fun u=>SC.rfind ?_;rw [zQ];exact os (P:=fun v=>Post X Mu s v Q→_) e (fun p=>p.same _ ⟨_,rfl⟩) p
  |rstrip=> refine ob e fun c hc e=>iZ hc ra fun u=>SC.rstripChars (fun t' k=>?_) (by rw [str_len,av];exact hx);rw [wI];exact os (P:=fun v=>Post X Mu s v Q→_) e (fun p=>p.same _ ⟨_,rfl,Nat.le_trans (wM _ _) hx⟩) p
  |startswith=> refine ob e fun c hc e=>iZ hc ra fun u=>SC.startswith ?_;rw [wH];exact os (P:=fun v=>Post X Mu s v Q→_) e (fun p=>p.here rfl) p
  |endswith=> refine ob e fun c hc e=>iZ hc ra fun u=>SC.endswith ?_;rw [Ct];exact os (P:=fun v=>Post X Mu s v Q→_) e (fun p=>p.here rfl) p
  |count=> refine ob e fun c hc e=>iZ hc ra fun u=>SC.count ?_;rw [zP];exact os (P:=fun v=>Post X Mu s v Q→_) e (fun p=>p.same _ ⟨_,rfl⟩) p
  |index=> refine mF e ra fun a b y z e ry rz=>ob e fun u h2 e=>ob e fun c h3 e=>ob e fun i h4 e=>?_;refine fU h4 rz fun u2=>jD h2 ry fun u1 _=>qQ (P:=fun l=>wpAny _ A (call _ [_,.str (aC l) u1,_]) Q E s) h3 (oi e fun hi e=>om (P:=fun v=>Post X Mu s v Q→_) e (fun k hk p=>?_) p);have hi:=of_decide_eq_true hi;obtain ⟨rest,ho⟩:=zR c x i.toNat k hk;have UL:=rZ (aC x).length hi.1;refine call_gives F.slot_str_index (typeIs_str _ _ _) F.entry_str_index (F.args_str_index_3 _ _ _) (kX _ _ _ _ _ _ (i.toNat+k) rest (by rw [UL];exact ho)) ?_;show Q (.int ((i.toNat+k:Nat):Int) _) _;rw [zV k hi.1];exact p.same _ ⟨_,rfl⟩
  |bP=>exact no e
 ·rename_i j;cases k <;>first|exact no e|skip
  refine ro.Jv (ob e fun x h1 e=>fc h1 ra fun a y e2 ry=>jD e2 ry fun u _=>?_);obtain ⟨n,hn,hf⟩:=G.fW j;exact Cy hh (iW hf hold) hn fun h' tk hk=>os (P:=fun v=>Post X Mu s v Q→_) e (fun p=>p _ _ tk hk rfl) p
end
end
end
section
open PyProof.Rows PySem.Calls PySem.SeqAt
section
section
variable {X:Cx} {A:Around} {E:Value→Shared→Prop} {s:Shared} {Mu:List Addr} {Q:Value→Shared→Prop}
structure Itr (X:Cx) (A:Around) (Mu:List Addr) (h:Heap) (xs:List V) (I:Addr) (s₂:Heap) where
 fp:List Addr
 P:Nat→Value→Prop
 St:Nat→Heap→Prop
 W:Walks X.prog X.w A I fp [I] xs.length P St
 st:St 0 s₂
 lt:∀b∈fp,b<s₂.objs.size
 new:∀b∈[I],h.get? b=none
 off:∀b∈fp,b∉Mu
 old:∀b∈fp,b=I∨∃o,h.get? b=some o
 has:∀i g,St i g→∃o T,g.get? I=some o∧o.cls=.type T∧T∈["list_iterator","tuple_iterator","range_iterator"]
 item:∀i x v,xs[i]?=some x→P i v→RV X h Mu x v
theorem aM (ha:h.objs.size≤a):h.get? a=none:=by
 cases e:h.get? a with
 |none=>rfl
 |some o'=>exact absurd (Heap.lt_size e) (Nat.not_lt.mpr ha)
theorem uo (a b:Int):Builtin.Range.rangeSize a b 1=((b-a).toNat:Int):=by unfold Builtin.Range.rangeSize;simp;split <;>omega
theorem fO (hh:A.handled=none) (hM:∀a∈Mu,∃o,s.heap.get? a=some o) (e:cO v=some xs) (r:RV X s.heap Mu v va)
  (p:∀h',Kp s.heap h'→Nonempty (Itr X A Mu s.heap xs s.heap.objs.size h')→Q (.ref s.heap.objs.size) {s with heap:=h'}):
  wpAny (model X.prog X.w) A (pyIter va) Q E s:=by
 cases v <;>first|exact no e|skip
 ·rename_i a b;refine oi e fun _ e=>?_;cases e;obtain ⟨l,t,u,z,rfl,hl,hr,h1,h2⟩:=r;have h1:=of_decide_eq_true h1;have h2:=of_decide_eq_true h2;refine wpAny_pyIter_range hr ?_ (p _ aA ⟨?_⟩)
  ·have fl:∀i:Int,-10000000000≤i→i<10000000000→Builtin.Range.rangeFitsLong i=true:=fun i q1 q2=>by
    unfold Builtin.Range.rangeFitsLong;simp;omega
   unfold Builtin.Range.small;rw [uo,fl a (by omega) (by omega),fl b (by omega) (by omega),fl 1 (by decide) (by decide),fl _ (by exact Nb) (by omega),fl (b+(1-1)) (by omega) (by omega)];simp
  ·have hlen:(zC a b).length=(b-a).toNat:=by simp [zC]
   refine ⟨[_],_,_,hlen▸Walks.range hh s.heap.objs.size a 1 (b-a).toNat,?_,?_,?_,?_,fun b hb=>.inl (List.mem_singleton.mp hb),fun i g hg=>⟨_,_,hg,rfl,by simp⟩,?_⟩
   ·show IsRangeIter _ _ _ _ _;have:IsRangeIter (s.heap.push {cls:=.type "range_iterator",data:=.fields #[rawInt a,rawInt (Builtin.Range.rangeSize a b 1),rawInt 1]}) s.heap.objs.size a ((b-a).toNat:Int) 1:=by
     rw [uo];exact Heap.get?_push_size _ rfl
    rw [hlen];simpa using this
   ·intro b hb;rw [List.mem_singleton.mp hb,Heap.size_push];exact Nat.lt_succ_self _
   ·intro b hb;rw [List.mem_singleton.mp hb];exact aM (Nat.le_refl _)
   ·intro b hb;rw [List.mem_singleton.mp hb];exact bk hM
   ·rintro i x v hx ⟨t,rfl⟩;have hi:i<(b-a).toNat:=by
     have:=(List.getElem?_eq_some_iff.mp hx).1;rw [hlen] at this;exact this
    have:x=.int (a+i):=by simp [zC,hi] at hx;exact hx.symm
    subst this;exact ⟨t,by rw [Int.mul_one]⟩
 ·rename_i ys;have e:ys=xs:=Option.some.inj e;subst e;obtain ⟨l,vs,rfl,hl,ht,hz,r1⟩:=r;have hlt:l<s.heap.objs.size:=ht.lt;have ht':s.heap.IsTuple l vs.toArray:=ht;refine wpAny_pyIter_tuple ht' (p _ aA ⟨?_⟩);have hlen:vs.toArray.size=ys.length:=by simp [r1.length]
  refine ⟨_,_,_,hlen▸Walks.tuple hh s.heap.objs.size l (Nat.ne_of_lt hlt) vs.toArray,⟨⟨_,Heap.get?_push_size _ rfl,rfl,rfl⟩,Ce ht fun o h=>aA _ _ h⟩,?_,?_,?_,fun b hb=>(by
   rcases List.mem_cons.mp hb with q|q
   ·exact .inl q
   ·rw [List.mem_singleton.mp q];exact .inr (let ⟨o,ho,_⟩:=ht;⟨o,ho⟩)),fun i g hg=>let ⟨o,ho,hc,_⟩:=hg.1;⟨o,_,ho,hc,by simp⟩,?_⟩
  ·intro b hb;rw [Heap.size_push];rcases List.mem_cons.mp hb with rfl|hb
   ·exact Nat.lt_succ_self _
   ·rw [List.mem_singleton.mp hb];exact Nat.lt_succ_of_lt hlt
  ·intro b hb;rw [List.mem_singleton.mp hb];exact aM (Nat.le_refl _)
  ·intro b hb;rcases List.mem_cons.mp hb with rfl|hb
   ·exact bk hM
   ·rw [List.mem_singleton.mp hb];exact hl
  ·intro i x v hx hv;obtain ⟨u,hu,ru⟩:=r1.get hx;have:v=u:=by
    have hv':vs[i]?=some v:=by simpa using hv
    rw [hu] at hv';cases hv';rfl
   subst this;exact ru
 ·rename_i ys;have e:ys=xs:=Option.some.inj e;subst e;obtain ⟨l,vs,rfl,hl,ht,hz,r1⟩:=r;have hlt:l<s.heap.objs.size:=by obtain ⟨o,ho,_⟩:=ht;exact Heap.lt_size ho
  refine wpAny_pyIter_list ht (p _ aA ⟨?_⟩);have hlen:vs.toArray.size=ys.length:=by simp [r1.length]
  refine ⟨_,_,_,hlen▸Walks.list hh s.heap.objs.size l (Nat.ne_of_lt hlt) vs.toArray,⟨⟨_,Heap.get?_push_size _ rfl,rfl,rfl⟩,fN ht fun o h=>aA _ _ h⟩,?_,?_,?_,fun b hb=>(by
   rcases List.mem_cons.mp hb with q|q
   ·exact .inl q
   ·rw [List.mem_singleton.mp q];exact .inr (let ⟨o,ho,_⟩:=ht;⟨o,ho⟩)),fun i g hg=>let ⟨o,ho,hc,_⟩:=hg.1;⟨o,_,ho,hc,by simp⟩,?_⟩
  ·intro b hb;rw [Heap.size_push];rcases List.mem_cons.mp hb with rfl|hb
   ·exact Nat.lt_succ_self _
   ·rw [List.mem_singleton.mp hb];exact Nat.lt_succ_of_lt hlt
  ·intro b hb;rw [List.mem_singleton.mp hb];exact aM (Nat.le_refl _)
  ·intro b hb;rcases List.mem_cons.mp hb with rfl|hb
   ·exact bk hM
   ·rw [List.mem_singleton.mp hb];exact hl
  ·intro i x v hx hv;obtain ⟨u,hu,ru⟩:=r1.get hx;have:v=u:=by
    have hv':vs[i]?=some v:=by simpa using hv
    rw [hu] at hv';cases hv';rfl
   subst this;exact ru
theorem Cz {target:Expr} {I:Addr} {v:Value} {Q:Unit→Shared→Prop} {T:String} (ho:s.heap.get? I=some o) (hc:o.cls=.type T) (hT:T∈["list_iterator","tuple_iterator","range_iterator"]) (hQ:Q () s):
  wpAny (model X.prog X.w) A (letOwnedTupleGo target (.ref I) v) Q E s:=by
 have hn:["enumerate","zip","dict_itemiterator","dict_reverseitemiterator","odict_iterator","itertools.zip_longest","itertools.pairwise"].contains T=false:=by simp only [List.mem_cons,List.not_mem_nil,or_false] at hT;rcases hT with rfl|rfl|rfl <;>decide
 have core:wpAny (model X.prog X.w) A (do
   let (.ref r,.ref a):=(Value.ref I,v)|return
   let o←load r
   match o.cls,o.data with
   |.type n,.fields vs=>
    if ["enumerate","zip","dict_itemiterator","dict_reverseitemiterator","odict_iterator","itertools.zip_longest","itertools.pairwise"].contains n&&vs[0]?==some (rawInt a) then
     rule "for.unpacks-the-owned-tuple"
     updateField r 0 .none
   |_,_=>pure ():Sem Unit) Q E s:=by
  cases v with
  |ref a=>
   refine wpAny_bind (wpAny_load ho ?_);rw [hc];cases hd:o.data <;>first
    |exact wpAny_pure hQ
    |(rename_i vs;show wpAny _ A (if (["enumerate","zip","dict_itemiterator","dict_reverseitemiterator","odict_iterator","itertools.zip_longest","itertools.pairwise"].contains T&&vs[0]?==some (rawInt a))=true then _ else _) Q E s;rw [hn,Bool.false_and,if_neg (by decide)];exact wpAny_pure hQ)
  |_=>exact wpAny_pure hQ
 cases target <;>first|exact wpAny_pure hQ|exact core
theorem uq (e:cO v=some xs) (r:RV X h Mu v va):xs.length≤16777216:=by
 cases v with
 |jM a b=> refine oi e fun hz e=>?_;cases e;have:=bH hz;simpa [zC] using this
 |tup ys=>cases (show some ys=some xs from e);exact r.j4 fun l vs _ _ hz r1=>by rw [←r1.length];exact hz
 |lst ys=>cases (show some ys=some xs from e);exact r.nC fun l vs _ _ hz r1=>by rw [←r1.length];exact hz
 |_=>exact no e
end
end
end
section
open PyProof.Rows PySem.Calls PySem.SeqAt PySem.MeetsSeq3
section
noncomputable def EM (A:Around) (s:Shared) (x y:Value) (b:Bool):Prop:= ∀(prog:Program) (w:World) (E Q:Value→Shared→Prop),Q (.bool b) s→wpAny (model prog w) A (richCompare .Gt x y) Q E s
theorem EM.str (A:Around) (s:Shared) (a b:Str) (t u:Tok):EM A s (.str a t) (.str b u) (decide (b.cps.toList<a.cps.toList)):=fun _ _ _ _ q=>P.gt_str q
inductive ur (A:Around) (s:Shared) (z:Bool):List (Value×Value)→Bool→Prop
 |nil:ur A s z [] z
 |cons {x y:Value} {e l r:Bool} {rest:List (Value×Value)} (he:EqAt A s x y e) (hl:EM A s x y l) (h:ur A s z rest r):ur A s z ((x,y)::rest) (if e then r else l)
theorem EN (l b:Addr) (items items2:Array Value) (n n2:Nat) (dd dd2:Option Addr) (sl sl2:Array (Option Value)):∀(k i:Nat) (r:Bool),min items.size items2.size-i=k→
  Meets (Builtin.«list.__eq__.loop» ⟨[.ref l,.ref b,rawInt i,rawInt 4],[]⟩)
   (fun A R s=>s.heap.get? l=some {cls:=.type "list",dict:=dd,data:=.seq items n,slots:=sl}∧s.heap.get? b=some {cls:=.type "list",dict:=dd2,data:=.seq items2 n2,slots:=sl2}∧
    ur A.in1 s (decide (items2.size<items.size)) ((items.toList.zip items2.toList).drop i) r∧R (.ok (.ret (.bool r))) s):=by
 intro k;induction k with
 |zero=>
  intro i r hk prog w A R s h;obtain ⟨hp,g,d,tk,os⟩:=s;obtain ⟨hl,hb,hx,h⟩:=h;rw [List.drop_of_length_le (by simp;exact MC hk)] at hx;cases hx;wp_walk using wpAny_loadPart' hl,wpAny_loadPart' hb;have hq:items[((i:Nat):Int).toNat]?=none∨items2[((i:Nat):Int).toNat]?=none:=by
   rcases Nat.le_total items.size items2.size with q|q
   ·left;simp;exact MD hk q
   ·right;simp;exact ME hk q
  rcases hq with q|q <;>rw [q]
  ·wp_walk using wpAny_loadPart' hl,wpAny_loadPart' hb;exact h
  ·cases items[((i:Nat):Int).toNat]? <;>
   ·wp_walk using wpAny_loadPart' hl,wpAny_loadPart' hb;exact h
 |succ k ih=>
  intro i r hk prog w A R s h;obtain ⟨hp,g,d,tk,os⟩:=s;obtain ⟨hl,hb,hx,h⟩:=h;have hlt:i<items.size:=MF hk;have Ci:i<items2.size:=MG hk;have hi1:items[((i:Nat):Int).toNat]?=some items[i]:=by simp [hlt]
  have hi2:items2[((i:Nat):Int).toNat]?=some items2[i]:=by simp [Ci]
  have hz:i<(items.toList.zip items2.toList).length:=by simp;exact MH hlt Ci
  have hd:(items.toList.zip items2.toList).drop i=(items[i],items2[i])::(items.toList.zip items2.toList).drop (i+1):=by rw [List.drop_eq_getElem_cons hz];simp
  have hc:((i:Int)+1)=((i+1:Nat):Int):=by push_cast;rfl
  rw [hd] at hx;wp_walk using wpAny_loadPart' hl,wpAny_loadPart' hb;rw [hi1,hi2];cases hx with
  |cons he hlt' hr=>
   rename_i e lb r';refine wpAny_bind (he prog w _ _ ?_);cases e with
   |true=>
    wp_walk;rw [hc]
    exact ⟨plainId_quiet plain_eq_loop _,codeAny_builtin entry_eq_loop (by
     rw [Around.under_plainId plain_eq_loop _]
     exact ih (i+1) r' (MJ hk) prog w A R _ ⟨hl,hb,hr,h⟩)⟩
   |false=> wp_walk using wpAny_loadPart' hl,wpAny_loadPart' hb;rw [hi1,hi2];refine wpAny_bind (hlt' prog w _ _ ?_);wp_walk;exact h
theorem EO (l b:Addr) (items items2:Array Value) (n n2:Nat) (dd dd2:Option Addr) (sl sl2:Array (Option Value)) (r:Bool):
  Meets (Builtin.«list.__gt__» ⟨[.ref l,.ref b],[]⟩)
   (fun A R s=>s.heap.get? l=some {cls:=.type "list",dict:=dd,data:=.seq items n,slots:=sl}∧s.heap.get? b=some {cls:=.type "list",dict:=dd2,data:=.seq items2 n2,slots:=sl2}∧
    ur A.in1 s (decide (items2.size<items.size)) (items.toList.zip items2.toList) r∧R (.ok (.ret (.bool r))) s):=by
 intro prog w A R s h;obtain ⟨hp,g,d,tk,os⟩:=s;obtain ⟨hl,hb,hx,h⟩:=h;have f3:=AutoSeq1.sub_list_list;wp_walk using wpAny_loadPart' hl,wpAny_loadPart' hb
 exact ⟨plainId_quiet plain_eq_loop _,codeAny_builtin entry_eq_loop (by
  rw [Around.under_plainId plain_eq_loop _]
  exact EN l b items items2 n n2 dd dd2 sl sl2 _ 0 r rfl prog w A R _ ⟨hl,hb,hx,h⟩)⟩
section
variable {X:Cx} {A:Around} {E Q:Value→Shared→Prop} {s:Shared}
theorem CA {b:Addr} {r:Bool} (hl:s.heap.IsList l items) (hb:s.heap.IsList b items2) (hu:A.units<9000) (hx:ur A.in1 s (decide (items2.size<items.size)) (items.toList.zip items2.toList) r)
  (p:Q (.bool r) s):wpAny (model X.prog X.w) A (richCompare .Gt (.ref l) (.ref b)) Q E s:=by
 obtain ⟨⟨cls,dd,data,sl⟩,ho,hc,n,hd⟩:=id hl;obtain ⟨⟨Jw,dd2,data2,sl2⟩,ho2,hc2,n2,hd2⟩:=id hb;simp only at hc hd hc2 hd2;subst hc hd hc2 hd2;exact richCompare_meets_room (op:=.Gt) ⟨_,ho,rfl⟩ ⟨_,ho2,rfl⟩ F.slot_list_gt F.entry_list_gt (F.args_list_gt_2 _ _) (EO l b items items2 n n2 dd dd2 sl sl2 r)
  ⟨ho,ho2,hx,show Value.bool r≠Value.notImplemented∧Q (.bool r) s from ⟨(fun x=>nomatch x),p⟩⟩ (by unfold cLine;exact D5 hu)
end
theorem Sb {A:Around} {s:Shared} (z:Bool):∀{x y:List (List Nat)} {us vs:List Value},StrsAre us (x.map aC)→StrsAre vs (y.map aC)→z=decide (x.length<y.length)→Lex A s z (us.zip vs) (jk x y)
 |[],[],_,_,h1,h2,hz=>by cases h1;cases h2;subst hz;exact .nil
 |[],_::_,_,_,h1,h2,hz=>by cases h1;cases h2;subst hz;exact .nil
 |_::_,[],_,_,h1,h2,hz=>by cases h1;cases h2;subst hz;exact .nil
 |a::x,b::y,_,_,h1,h2,hz=>by
  cases h1 with
  |cons _ t h1=>
   cases h2 with
   |cons _ u h2=>
    have:=Lex.cons (A:=A) (s:=s) (EqAt.str_str (aC a) t (aC b) u) (rS.str A s (aC a) (aC b) t u) (Sb z h1 h2 (by rw [hz];simp));rw [iX] at this;rw [List.zip_cons_cons];have e:jk (a::x) (b::y)=(if (a==b)=true then jk x y else decide ((aC a).cps.toList<(aC b).cps.toList)):=by
     rw [jk,rW]
     by_cases h:a=b <;>simp [h]
    rw [e];exact this
theorem Sd {A:Around} {s:Shared} (z:Bool):∀{x y:List (List Nat)} {us vs:List Value},StrsAre us (x.map aC)→StrsAre vs (y.map aC)→z=decide (y.length<x.length)→ur A s z (us.zip vs) (jk y x)
 |[],[],_,_,h1,h2,hz=>by cases h1;cases h2;subst hz;exact .nil
 |[],_::_,_,_,h1,h2,hz=>by cases h1;cases h2;subst hz;exact .nil
 |_::_,[],_,_,h1,h2,hz=>by cases h1;cases h2;subst hz;exact .nil
 |a::x,b::y,_,_,h1,h2,hz=>by
  cases h1 with
  |cons _ t h1=>
   cases h2 with
   |cons _ u h2=>
    have:=ur.cons (A:=A) (s:=s) (EqAt.str_str (aC a) t (aC b) u) (EM.str A s (aC a) (aC b) t u) (Sd z h1 h2 (by rw [hz];simp));rw [iX] at this;rw [List.zip_cons_cons];have e:jk (b::y) (a::x)=(if (a==b)=true then jk y x else decide ((aC b).cps.toList<(aC a).cps.toList)):=by
     rw [jk,rW]
     by_cases h:a=b
     ·subst h;simp
     ·simp [h,Ne.symm h]
    rw [e];exact this
section
variable {X:Cx} {A:Around} {R:Result→Shared→Prop} {I:Addr} {fp wr:List Addr} {P:Nat→Value→Prop} {St:Nat→Heap→Prop}
theorem min_two (W:Walks X.prog X.w A.in1 I fp wr 2 P St) (h₀:Heap) (bt:Bool) (S:Addr) (hSf:S∉fp) (W7:h₀.get? S=none)
  (hcmp:∀v0 v1 (s:Shared) (Q E:Value→Shared→Prop),(∀b o,b∉wr→h₀.get? b=some o→s.heap.get? b=some o)→P 0 v0→P 1 v1→Q (.bool bt) s→wpAny (model X.prog X.w) A.in1 (richCompare .Lt v1 v0) Q E s) (hk0:∀b o,h₀.get? b=some o→s.heap.get? b=some o) (hst:St 0 s.heap)
  (hS:s.heap.get? S=some {cls:=.type "list",dict:=none,data:=.seq #[] c,slots:=#[]})
  (hR:∀v h' tk,P (if bt then 1 else 0) v→(∀b o,b∉wr→b≠S→s.heap.get? b=some o→h'.get? b=some o)→R (.ok (.ret v)) {s with heap:=h',toks:=tk}):
  codeAny (model X.prog X.w) A (.builtin "min.loop" ⟨[.ref I,.none,.ref S],[]⟩) R s:=by
 have JI:S∉wr:=fun h=>hSf (W.sub _ h);have hname:(toString "min"++toString ".loop":String)="min.loop":=by decide
 have fin:∀(s':Shared) (vb:Value) (c:Nat),St 2 s'.heap→s'.heap.get? S=some {cls:=.type "list",dict:=none,data:=.seq #[vb,vb] c,slots:=#[]}→
   (∀h' tk,(∀b o,b∉wr→b≠S→s'.heap.get? b=some o→h'.get? b=some o)→R (.ok (.ret vb)) {s' with heap:=h',toks:=tk})→
   codeAny (model X.prog X.w) A (.builtin "min.loop" ⟨[.ref I,.none,.ref S],[]⟩) R s':=by
  intro s vb c hst hS hR;refine codeAny_builtin F.entry_min_loop ?_;rw [Around.under_plainId F.plain_min_loop _];show wpAny _ A.in1 (seqItems? (.ref S)>>=_) _ _ s;refine wpAny_bind (wpAny_seqItems hS rfl ?_);show wpAny _ A.in1 (tryCatch (pyNext (.ref I)) _>>=_) _ _ s;refine wpAny_bind (wpAny_tryCatch (W.done s _ _ hst fun h' tk hk'=>?_));have hS':=hk' S _ JI hS;show wpAny _ A.in1 (updateSeq S (fun _=>#[])>>=_) _ _ _;refine wpAny_bind ?_;refine wpAny_updateSeq hS' rfl (wpAny_bind (wpAny_letGo (wpAny_pure ?_)));exact hR _ tk fun b o Mb pC e=>(Heap.get?_update_other _ _ (Ne.symm pC)).trans (hk' b o Mb e)
 have mid:∀(s':Shared) (v0:Value) (c:Nat),P 0 v0→St 1 s'.heap→s'.heap.get? S=some {cls:=.type "list",dict:=none,data:=.seq #[v0,v0] c,slots:=#[]}→
   (∀b o,b∉wr→b≠S→s.heap.get? b=some o→s'.heap.get? b=some o)→(∀v h' tk,P (if bt then 1 else 0) v→(∀b o,b∉wr→b≠S→s.heap.get? b=some o→h'.get? b=some o)→R (.ok (.ret v)) {s' with heap:=h',toks:=tk})→
   codeAny (model X.prog X.w) A (.builtin "min.loop" ⟨[.ref I,.none,.ref S],[]⟩) R s':=by
  intro s' v0 c EP CB Se k2 hR;refine codeAny_builtin F.entry_min_loop ?_;rw [Around.under_plainId F.plain_min_loop _];show wpAny _ A.in1 (seqItems? (.ref S)>>=_) _ _ _;refine wpAny_bind (wpAny_seqItems Se rfl ?_);show wpAny _ A.in1 (tryCatch (pyNext (.ref I)) _>>=_) _ _ _;refine wpAny_bind (wpAny_tryCatch (W.item 1 _ _ _ (by decide) CB fun v1 h3 gO Sf CC CD=>?_));have JJ:=CD S _ JI Se;show wpAny _ A.in1 (tryCatch (holding [v1,v1] (richCompare .Lt v1 v0>>=_)) _>>=_) _ _ _;refine wpAny_bind (wpAny_tryCatch (wpAny_holding (wpAny_bind (hcmp v0 v1 _ _ _ (fun b o hb e=>?_) EP Sf ?_))))
  ·exact CD b o hb (k2 b o hb (fun h=>by rw [h,W7] at e;cases e) (hk0 b o e))
  refine wpAny_bind (wpAny_holding (wpAny_truthy_bool ?_));refine wpAny_bind (wpAny_letGo (wpAny_pure ?_));cases bt with
  |true=>
   simp only [if_true] at hR⊢;refine wpAny_bind ?_;refine wpAny_updateSeq JJ rfl (wpAny_bind (wpAny_letGo ?_));rw [hname];refine wpAny_pure ⟨plainId_quiet F.plain_min_loop _,fin _ v1 _ (W.frame _ _ _ CC fun b JK o e=>?_) (Heap.get?_update_self _ JJ rfl) fun h' tk hk=>?_⟩
   ·exact (Heap.get?_update_other _ _ (fun h:S=b=>hSf (by rw [h];exact JK))).trans e
   ·exact hR v1 h' tk Sf fun b o hb pC e=>hk b o hb pC ((Heap.get?_update_other _ _ (Ne.symm pC)).trans (CD b o hb (k2 b o hb pC e)))
  |false=> simp only [Bool.false_eq_true,if_false] at hR⊢;refine wpAny_bind (wpAny_letGo ?_);rw [hname];refine wpAny_pure ⟨plainId_quiet F.plain_min_loop _,fin _ v0 _ CC JJ fun h' tk hk=>?_⟩;exact hR v0 h' tk EP fun b o hb pC e=>hk b o hb pC (CD b o hb (k2 b o hb pC e))
 refine codeAny_builtin F.entry_min_loop ?_;rw [Around.under_plainId F.plain_min_loop _];show wpAny _ A.in1 (seqItems? (.ref S)>>=_) _ _ s;refine wpAny_bind (wpAny_seqItems hS rfl ?_);show wpAny _ A.in1 (tryCatch (pyNext (.ref I)) _>>=_) _ _ s;refine wpAny_bind (wpAny_tryCatch (W.item 0 s _ _ (by decide) hst fun v0 h1 qf EP mq hk1=>?_));have Sg:=hk1 S _ JI hS;show wpAny _ A.in1 (updateSeq S (fun _=>#[v0,v0])>>=_) _ _ _;refine wpAny_bind ?_;refine wpAny_updateSeq Sg rfl ?_;rw [hname];refine wpAny_pure ⟨plainId_quiet F.plain_min_loop _,mid _ v0 _ EP (W.frame _ _ _ mq fun b JK o e=>?_) (Heap.get?_update_self _ Sg rfl) (fun b o hb pC e=>?_) fun v h' tk hP hk=>?_⟩
 ·exact (Heap.get?_update_other _ _ (fun h:S=b=>hSf (by rw [h];exact JK))).trans e
 ·exact (Heap.get?_update_other _ _ (Ne.symm pC)).trans (hk1 b o hb e)
 ·exact hR v h' tk hP hk
theorem max_two (W:Walks X.prog X.w A.in1 I fp wr 2 P St) (h₀:Heap) (bt:Bool) (S:Addr) (hSf:S∉fp) (W7:h₀.get? S=none)
  (hcmp:∀v0 v1 (s:Shared) (Q E:Value→Shared→Prop),(∀b o,b∉wr→h₀.get? b=some o→s.heap.get? b=some o)→P 0 v0→P 1 v1→Q (.bool bt) s→wpAny (model X.prog X.w) A.in1 (richCompare .Gt v1 v0) Q E s) (hk0:∀b o,h₀.get? b=some o→s.heap.get? b=some o) (hst:St 0 s.heap)
  (hS:s.heap.get? S=some {cls:=.type "list",dict:=none,data:=.seq #[] c,slots:=#[]})
  (hR:∀v h' tk,P (if bt then 1 else 0) v→(∀b o,b∉wr→b≠S→s.heap.get? b=some o→h'.get? b=some o)→R (.ok (.ret v)) {s with heap:=h',toks:=tk}):
  codeAny (model X.prog X.w) A (.builtin "max.loop" ⟨[.ref I,.none,.ref S],[]⟩) R s:=by
 have JI:S∉wr:=fun h=>hSf (W.sub _ h);have hname:(toString "max"++toString ".loop":String)="max.loop":=by decide
 have fin:∀(s':Shared) (vb:Value) (c:Nat),St 2 s'.heap→s'.heap.get? S=some {cls:=.type "list",dict:=none,data:=.seq #[vb,vb] c,slots:=#[]}→
   (∀h' tk,(∀b o,b∉wr→b≠S→s'.heap.get? b=some o→h'.get? b=some o)→R (.ok (.ret vb)) {s' with heap:=h',toks:=tk})→
   codeAny (model X.prog X.w) A (.builtin "max.loop" ⟨[.ref I,.none,.ref S],[]⟩) R s':=by
  intro s vb c hst hS hR;refine codeAny_builtin F.entry_max_loop ?_;rw [Around.under_plainId F.plain_max_loop _];show wpAny _ A.in1 (seqItems? (.ref S)>>=_) _ _ s;refine wpAny_bind (wpAny_seqItems hS rfl ?_);show wpAny _ A.in1 (tryCatch (pyNext (.ref I)) _>>=_) _ _ s;refine wpAny_bind (wpAny_tryCatch (W.done s _ _ hst fun h' tk hk'=>?_));have hS':=hk' S _ JI hS;show wpAny _ A.in1 (updateSeq S (fun _=>#[])>>=_) _ _ _;refine wpAny_bind ?_;refine wpAny_updateSeq hS' rfl (wpAny_bind (wpAny_letGo (wpAny_pure ?_)));exact hR _ tk fun b o Mb pC e=>(Heap.get?_update_other _ _ (Ne.symm pC)).trans (hk' b o Mb e)
 have mid:∀(s':Shared) (v0:Value) (c:Nat),P 0 v0→St 1 s'.heap→s'.heap.get? S=some {cls:=.type "list",dict:=none,data:=.seq #[v0,v0] c,slots:=#[]}→
   (∀b o,b∉wr→b≠S→s.heap.get? b=some o→s'.heap.get? b=some o)→(∀v h' tk,P (if bt then 1 else 0) v→(∀b o,b∉wr→b≠S→s.heap.get? b=some o→h'.get? b=some o)→R (.ok (.ret v)) {s' with heap:=h',toks:=tk})→
   codeAny (model X.prog X.w) A (.builtin "max.loop" ⟨[.ref I,.none,.ref S],[]⟩) R s':=by
  intro s' v0 c EP CB Se k2 hR;refine codeAny_builtin F.entry_max_loop ?_;rw [Around.under_plainId F.plain_max_loop _];show wpAny _ A.in1 (seqItems? (.ref S)>>=_) _ _ _;refine wpAny_bind (wpAny_seqItems Se rfl ?_);show wpAny _ A.in1 (tryCatch (pyNext (.ref I)) _>>=_) _ _ _;refine wpAny_bind (wpAny_tryCatch (W.item 1 _ _ _ (by decide) CB fun v1 h3 gO Sf CC CD=>?_));have JJ:=CD S _ JI Se;show wpAny _ A.in1 (tryCatch (holding [v1,v1] (richCompare .Gt v1 v0>>=_)) _>>=_) _ _ _;refine wpAny_bind (wpAny_tryCatch (wpAny_holding (wpAny_bind (hcmp v0 v1 _ _ _ (fun b o hb e=>?_) EP Sf ?_))))
  ·exact CD b o hb (k2 b o hb (fun h=>by rw [h,W7] at e;cases e) (hk0 b o e))
  refine wpAny_bind (wpAny_holding (wpAny_truthy_bool ?_));refine wpAny_bind (wpAny_letGo (wpAny_pure ?_));cases bt with
  |true=>
   simp only [if_true] at hR⊢;refine wpAny_bind ?_;refine wpAny_updateSeq JJ rfl (wpAny_bind (wpAny_letGo ?_));rw [hname];refine wpAny_pure ⟨plainId_quiet F.plain_max_loop _,fin _ v1 _ (W.frame _ _ _ CC fun b JK o e=>?_) (Heap.get?_update_self _ JJ rfl) fun h' tk hk=>?_⟩
   ·exact (Heap.get?_update_other _ _ (fun h:S=b=>hSf (by rw [h];exact JK))).trans e
   ·exact hR v1 h' tk Sf fun b o hb pC e=>hk b o hb pC ((Heap.get?_update_other _ _ (Ne.symm pC)).trans (CD b o hb (k2 b o hb pC e)))
  |false=> simp only [Bool.false_eq_true,if_false] at hR⊢;refine wpAny_bind (wpAny_letGo ?_);rw [hname];refine wpAny_pure ⟨plainId_quiet F.plain_max_loop _,fin _ v0 _ CC JJ fun h' tk hk=>?_⟩;exact hR v0 h' tk EP fun b o hb pC e=>hk b o hb pC (CD b o hb (k2 b o hb pC e))
 refine codeAny_builtin F.entry_max_loop ?_;rw [Around.under_plainId F.plain_max_loop _];show wpAny _ A.in1 (seqItems? (.ref S)>>=_) _ _ s;refine wpAny_bind (wpAny_seqItems hS rfl ?_);show wpAny _ A.in1 (tryCatch (pyNext (.ref I)) _>>=_) _ _ s;refine wpAny_bind (wpAny_tryCatch (W.item 0 s _ _ (by decide) hst fun v0 h1 qf EP mq hk1=>?_));have Sg:=hk1 S _ JI hS;show wpAny _ A.in1 (updateSeq S (fun _=>#[v0,v0])>>=_) _ _ _;refine wpAny_bind ?_;refine wpAny_updateSeq Sg rfl ?_;rw [hname];refine wpAny_pure ⟨plainId_quiet F.plain_max_loop _,mid _ v0 _ EP (W.frame _ _ _ mq fun b JK o e=>?_) (Heap.get?_update_self _ Sg rfl) (fun b o hb pC e=>?_) fun v h' tk hP hk=>?_⟩
 ·exact (Heap.get?_update_other _ _ (fun h:S=b=>hSf (by rw [h];exact JK))).trans e
 ·exact (Heap.get?_update_other _ _ (Ne.symm pC)).trans (hk1 b o hb e)
 ·exact hR v h' tk hP hk
end
theorem nG {E:Value→Shared→Prop} (hh:A.handled=none) (hu:A.units+1<9000) (hM:∀a∈Mu,∃o,s.heap.get? a=some o)
  {a b:List V} {x y:List (List Nat)} (ha:bJ a=some x) (hb:bJ b=some y) (r:RV X s.heap Mu (.lst [.lst a,.lst b]) va)
  (p:Post X Mu s (if jk y x then .lst b else .lst a) Q):wpAny (model X.prog X.w) A (call (.builtin "min") [va]) Q E s:=by
 have hname:(toString "min"++toString ".loop":String)="min.loop":=by decide
 refine call_function_tree F.kind_min F.plain_min F.entry_min (F.args_min1 _) ?_;show wpAny _ A.in1 (Builtin.Builtins.bindParams "min" ["key","default"] 0 ⟨[],[]⟩>>=_) _ _ s;refine wpAny_bind (wpAny_of_eq (show Builtin.Builtins.bindParams "min" ["key","default"] 0 ⟨[],[]⟩=pure [none,none] from rfl) ?_);refine wpAny_bind (wpAny_pure ?_);refine wpAny_bind (fO (A:=A.in1) (by simpa using hh) hM (v:=.lst [.lst a,.lst b]) rfl r fun h₁ hk₁ ⟨T⟩=>?_);obtain ⟨fp,P,St,W,st,lt,new,off,ER,has,item⟩:=T;refine wpAny_bind (wpAny_newObj_type ?_);have hSf:h₁.objs.size∉fp:=fun hm=>Nat.lt_irrefl _ (lt _ hm);rw [hname];have old:∀b o,s.heap.get? b=some o→b∉[s.heap.objs.size]:=fun b o e hb=>by rw [new b hb] at e;cases e
 refine wpAny_pure ⟨plainId_quiet F.plain_min_loop _,min_two W s.heap (jk y x) h₁.objs.size hSf ?_ ?_ (fun b o e=>aA _ _ (hk₁ _ _ e)) (W.frame _ _ _ st fun b _ o e=>aA _ _ e) (Heap.get?_push_size _ rfl) fun v h' tk hP hk=>?_⟩
 ·cases e:s.heap.get? h₁.objs.size with
  |none=>rfl
  |some o=>exact absurd (Heap.lt_size (hk₁ _ _ e)) (Nat.lt_irrefl _)
 ·intro v0 v1 s' Q' E' hk h0 h1 hq;have r0:=item 0 _ v0 rfl h0;have r1:=item 1 _ v1 rfl h1;obtain ⟨l0,W8,rfl,_,W9,_,q0⟩:=r0;obtain ⟨l1,Xa,rfl,_,hl1,_,q1⟩:=r1;have z0:=aE.strs (s:=s) q0 ha;have z1:=aE.strs (s:=s) q1 hb;have kk:∀{l:Addr} {o:Obj},s.heap.get? l=some o→s'.heap.get? l=some o:=fun e=>hk _ _ (old _ _ e) e;have n0:W8.length=x.length:=by have:=z0.len_eq;simpa using this
  have n1:Xa.length=y.length:=by have:=z1.len_eq;simpa using this
  exact Cj (fN hl1 fun o e=>kk e) (fN W9 fun o e=>kk e) (by simpa using hu) (Sb _ z1 z0 (by simp [n0,n1])) hq
 ·refine p v h' tk (fun b o e=>hk b o (old b o e) (Nat.ne_of_lt (Heap.lt_size (hk₁ _ _ e))) (aA _ _ (hk₁ _ _ e))) ?_;have hk2:Kp s.heap h':=fun b o e=>hk b o (old b o e) (Nat.ne_of_lt (Heap.lt_size (hk₁ _ _ e))) (aA _ _ (hk₁ _ _ e));split at hP <;>rename_i hc
  ·rw [if_pos hc];exact (item 1 (.lst b) v rfl hP).kp hk2
  ·rw [if_neg hc];exact (item 0 (.lst a) v rfl hP).kp hk2
theorem nH {E:Value→Shared→Prop} (hh:A.handled=none) (hu:A.units+1<9000) (hM:∀a∈Mu,∃o,s.heap.get? a=some o)
  {a b:List V} {x y:List (List Nat)} (ha:bJ a=some x) (hb:bJ b=some y) (r:RV X s.heap Mu (.lst [.lst a,.lst b]) va)
  (p:Post X Mu s (if jk x y then .lst b else .lst a) Q):wpAny (model X.prog X.w) A (call (.builtin "max") [va]) Q E s:=by
 have hname:(toString "max"++toString ".loop":String)="max.loop":=by decide
 refine call_function_tree F.kind_max F.plain_max F.entry_max (F.args_max1 _) ?_;show wpAny _ A.in1 (Builtin.Builtins.bindParams "max" ["key","default"] 0 ⟨[],[]⟩>>=_) _ _ s;refine wpAny_bind (wpAny_of_eq (show Builtin.Builtins.bindParams "max" ["key","default"] 0 ⟨[],[]⟩=pure [none,none] from rfl) ?_);refine wpAny_bind (wpAny_pure ?_);refine wpAny_bind (fO (A:=A.in1) (by simpa using hh) hM (v:=.lst [.lst a,.lst b]) rfl r fun h₁ hk₁ ⟨T⟩=>?_);obtain ⟨fp,P,St,W,st,lt,new,off,ER,has,item⟩:=T;refine wpAny_bind (wpAny_newObj_type ?_);have hSf:h₁.objs.size∉fp:=fun hm=>Nat.lt_irrefl _ (lt _ hm);rw [hname];have old:∀b o,s.heap.get? b=some o→b∉[s.heap.objs.size]:=fun b o e hb=>by rw [new b hb] at e;cases e
 refine wpAny_pure ⟨plainId_quiet F.plain_max_loop _,max_two W s.heap (jk x y) h₁.objs.size hSf ?_ ?_ (fun b o e=>aA _ _ (hk₁ _ _ e)) (W.frame _ _ _ st fun b _ o e=>aA _ _ e) (Heap.get?_push_size _ rfl) fun v h' tk hP hk=>?_⟩
 ·cases e:s.heap.get? h₁.objs.size with
  |none=>rfl
  |some o=>exact absurd (Heap.lt_size (hk₁ _ _ e)) (Nat.lt_irrefl _)
 ·intro v0 v1 s' Q' E' hk h0 h1 hq;have r0:=item 0 _ v0 rfl h0;have r1:=item 1 _ v1 rfl h1;obtain ⟨l0,W8,rfl,_,W9,_,q0⟩:=r0;obtain ⟨l1,Xa,rfl,_,hl1,_,q1⟩:=r1;have z0:=aE.strs (s:=s) q0 ha;have z1:=aE.strs (s:=s) q1 hb;have kk:∀{l:Addr} {o:Obj},s.heap.get? l=some o→s'.heap.get? l=some o:=fun e=>hk _ _ (old _ _ e) e;have n0:W8.length=x.length:=by have:=z0.len_eq;simpa using this
  have n1:Xa.length=y.length:=by have:=z1.len_eq;simpa using this
  exact CA (fN hl1 fun o e=>kk e) (fN W9 fun o e=>kk e) (by simpa using hu) (Sd _ z1 z0 (by simp [n0,n1])) hq
 ·refine p v h' tk (fun b o e=>hk b o (old b o e) (Nat.ne_of_lt (Heap.lt_size (hk₁ _ _ e))) (aA _ _ (hk₁ _ _ e))) ?_;have hk2:Kp s.heap h':=fun b o e=>hk b o (old b o e) (Nat.ne_of_lt (Heap.lt_size (hk₁ _ _ e))) (aA _ _ (hk₁ _ _ e));split at hP <;>rename_i hc
  ·rw [if_pos hc];exact (item 1 (.lst b) v rfl hP).kp hk2
  ·rw [if_neg hc];exact (item 0 (.lst a) v rfl hP).kp hk2
end
end
section
open PyProof.Rows PySem.Calls PySem.SeqAt
section
noncomputable def nJ:BI→Value
 |.len=>.builtin "len"|.sum=>.builtin "sum"|.min=>.builtin "min"|.max=>.builtin "max"|.range=>.type "range"
 |.gj=>.builtin "isinstance"|.type=>.type "type"|.pT=>.builtin "issubclass"
theorem preSum_eq (l:List Int):∀k,k≤l.length→preSum (fun i=>l.getD i 0) k=(l.take k).sum
 |0,_=>by simp [preSum]
 |k+1,h=>by
  have hk:k<l.length:=Hj h;rw [preSum,preSum_eq l k (by exact QM hk),List.take_add_one];have e:l[k]?.toList=[l[k]]:=by simp [hk]
  rw [e,List.sum_append_int];simp [List.getD,hk]
theorem qg (c:Int→Int→Bool) (l:List Int) (a:Int) (r:List Int) (hl:l=a::r):∀k,k<l.length→
  l.getD (argBest (fun i j=>c (l.getD i 0) (l.getD j 0)) k) 0=(r.take k).foldl (fun x y=>if c y x then y else x) a
 |0,_=>by subst hl;rfl
 |k+1,h=>by
  have ih:=qg c l a r hl k (QL h);have hk:k<r.length:=by subst hl;simpa using h
  rw [List.take_add_one,List.foldl_append,argBest];have e1:r[k]?.toList=[r[k]]:=by simp [hk]
  rw [e1,List.foldl_cons,List.foldl_nil,←ih];have e2:l.getD (k+1) 0=r[k]:=by subst hl;simp [List.getD,hk]
  rw [e2];split
  ·rw [e2]
  ·rfl
theorem wN (bt:Nat→Nat→Bool):∀k,argBest bt k≤k
 |0=>Nat.le_refl _
 |k+1=>by rw [argBest];have:=wN bt k;split <;>omega
theorem gB:∀{xs:List V} {l:List Int},fX xs=some l→l.length=xs.length∧∀i,i<xs.length→xs[i]?=some (.int (l.getD i 0))
 |[],l,e=>os (P:=fun l=>l.length=0∧_) e ⟨rfl,fun i hi=>absurd hi (Nat.not_lt_zero _)⟩
 |x::xs,l,e=>by
  refine ob e fun i h e=>cK (P:=fun x=>l.length=(x::xs).length∧∀i,i<(x::xs).length→(x::xs)[i]?=some (.int (l.getD i 0))) h ?_;refine om (P:=fun l=>l.length=_∧∀j,j<(V.int i::xs).length→(V.int i::xs)[j]?=some (.int (l.getD j 0))) e fun l' e'=>?_;obtain ⟨h1,h2⟩:=gB e';refine ⟨congrArg Nat.succ h1,fun i hi=>?_⟩;cases i with
  |zero=>rfl
  |succ i=>exact h2 i (Nat.lt_of_succ_lt_succ hi)
theorem CE:builtinKind "issubclass.nested"=none:=by decide+kernel
theorem zW:plainId "issubclass.nested"=true:=by decide+kernel
theorem CG (a b c:Value):argsOk "issubclass.nested" ⟨[a,b,c],[]⟩:=by unfold argsOk;kernel_rfl
section
variable {X:Cx} {A:Around} {E:Value→Shared→Prop} {s:Shared} {Mu:List Addr} {Q:Value→Shared→Prop}
theorem wO:isSubtype (.type "str") (.type "str")=pure true:=by rw [isSubtype_type];kernel_rfl
theorem r7 {prog:Program} {Q:Fin→Shared→Prop} {d:Int} (h:Q (.done (.ret (.bool true))) s):
  wpAny (model prog w) A (Builtin.«issubclass.nested» ⟨[.type "str",.type "str",.int d tk],[]⟩) Q E s:=by
 have hm:typeOf (.type "str")=pure (.type "type"):=by kernel_rfl
 have hs:=wO
 repeat (any_goals (first|assumption|(rw [hm])|(rw [hs])|wp_step))
theorem wQ (hu:A.units<9000) (hd:A.depth<900) (ht:IsTup s.heap a #[.type "str",.type "bytes"]) (h:∀tk,Q (.bool true) {s with toks:=tk}):
  wpAny (model X.prog X.w) A (call (.builtin "issubclass") [.type "str",.ref a]) Q E s:=by
 refine call_issubclass (S:=fun A R s=>A.units<9000∧IsTup s.heap a #[.type "str",.type "bytes"]∧∀tk,R (.ok (.ret (.bool true))) {s with toks:=tk}) ?_ ⟨hu,ht,fun tk=>h tk⟩;intro prog w A R s hs;obtain ⟨hu,ht,h⟩:=hs;refine issubclass_outer ?_;unfold Builtin.«issubclass.nested»;refine wpAny_bind (m:=typeOf (.ref a)) (wpAny_typeOf ht.typeIs ?_);rw [if_neg (by decide)];refine wpAny_bind (m:=Builtin.Builtins.unionMembers (.ref a)) ?_;unfold Builtin.Builtins.unionMembers;refine wpAny_bind (wpAny_typeOf ht.typeIs ?_);rw [if_neg (by decide)];refine wpAny_pure ?_;refine wpAny_bind (m:=isInstance (.ref a) (.type "tuple")) (wpAny_isInstance (b:=true) ht.typeIs (by rw [isSubtype_type];kernel_rfl) ?_);rw [if_pos rfl];show wpAny _ _ (if (0:Int)≥Builtin.Builtins.nestingLimit then _ else _) _ _ _;rw [if_neg (by decide)];obtain ⟨o,ho,hc,n,hd⟩:=ht;refine wpAny_bind (wpAny_seqItems ho hd ?_);rw [show (some #[Value.type "str",Value.type "bytes"]:Option (Array Value)).getD #[]=[Value.type "str",Value.type "bytes"].toArray from rfl];rw [List.forIn_toArray,List.forIn_cons];refine wpAny_bind ?_;refine wpAny_bind ?_;refine wpAny_bind (call_function_tree CE zW F.entry_issubclass_nested (CG _ _ _) ?_);refine r7 ?_;refine wpAny_bind (wpAny_truthy_bool ?_);rw [if_pos rfl];refine wpAny_bind (wpAny_pure ?_);refine wpAny_pure (wpAny_pure (wpAny_pure ?_));exact h _
theorem qh {c:Int→Int→Bool} {l:List Int} {a:Int} {r:List Int} (hl:l=a::r):l.getD (argBest (fun i j=>c (l.getD i 0) (l.getD j 0)) (l.length-1)) 0=r.foldl (fun x y=>if c y x then y else x) a:=by
 have:=qg c l a r hl (l.length-1) (by subst hl;simp);rw [this];have e:l.length-1=r.length:=by subst hl;simp
 rw [e,List.take_length]
theorem yJ {P:List V→Prop} {f:V→V→Option α} {v:α} (e:vY f xs=some v) (k:∀a b,f a b=some v→P [a,b]):P xs:=by
 cases xs with
 |nil=>exact no e
 |cons a r=>
  cases r with
  |nil=>exact no e
  |cons b t=>
   cases t with
   |nil=>exact k a b e
   |cons _ _=>exact no e
theorem wu (hh:A.handled=none) (hu:A.units+1<9000) (hM:∀a∈Mu,∃o,s.heap.get? a=some o)
  (e:jm (fun x y=>decide (y<x)) (fun x y=>jk y x) xs=some v) (r1:RV X s.heap Mu (.lst xs) va) (p:Post X Mu s v Q):wpAny (model X.prog X.w) A (call (nJ .min) [va]) Q E s:=by
 unfold jm at e;split at e
 ·rename_i l hl;cases l with
  |nil=>exact no e
  |cons a r=>
   obtain ⟨hlen,hget⟩:=gB hl;have hpos:0<xs.length:=by rw [←hlen];exact Nat.succ_pos _
   refine call_min_walk (fO (A:=A.in1) (by simpa using hh) hM (v:=.lst xs) rfl r1 fun h₁ hk₁ ⟨T⟩=>?_);obtain ⟨fp,P,St,W,st,lt,new,off,ER,has,item⟩:=T;refine ⟨_,fp,[_],xs.length,_,St,fun i j=>decide ((a::r).getD i 0<(a::r).getD j 0),rfl,W.bound,st,lt,hpos,fun i j vi vj s' Q' E' hi hj hq=>?_,fun v' h' tk hP hk=>?_⟩
   ·exact (item i _ vi (hget i hi.1) hi.2).eY fun t=>(item j _ vj (hget j hj.1) hj.2).eY fun u=>lt_int hq
   ·have hk2:Kp s.heap h':=fun b o hb=>hk b o (fun q=>by rw [new b q] at hb;cases hb) (hk₁ _ _ hb);have h3:=item _ _ v' (hget _ hP.1) hP.2;have h4:=qh (c:=fun y x=>decide (y<x)) (l:=a::r) rfl;rw [hlen] at h4;rw [h4] at h3;exact os (P:=fun v=>Post X Mu s v Q→_) e (fun p=>p v' h' tk hk2 (h3.kp hk2)) p
 ·refine yJ (P:=fun xs=>RV X s.heap Mu (.lst xs) va→_) e (fun a b e r1=>ob e fun a' ha e=>ob e fun b' hb e=>ob e fun x h1 e=>ob e fun y h2 e=>?_) r1;exact fT (P:=fun a=>RV X s.heap Mu (.lst [a,b]) va→_) ha (fT (P:=fun b=>RV X s.heap Mu (.lst [_,b]) va→_) hb fun r1=>os (P:=fun v=>Post X Mu s v Q→_) e (fun p=>nG hh hu hM h1 h2 r1 p) p) r1
theorem wz (hh:A.handled=none) (hu:A.units+1<9000) (hM:∀a∈Mu,∃o,s.heap.get? a=some o)
  (e:jm (fun x y=>decide (x<y)) jk xs=some v) (r1:RV X s.heap Mu (.lst xs) va) (p:Post X Mu s v Q):wpAny (model X.prog X.w) A (call (nJ .max) [va]) Q E s:=by
 unfold jm at e;split at e
 ·rename_i l hl;cases l with
  |nil=>exact no e
  |cons a r=>
   obtain ⟨hlen,hget⟩:=gB hl;have hpos:0<xs.length:=by rw [←hlen];exact Nat.succ_pos _
   refine call_max_walk (fO (A:=A.in1) (by simpa using hh) hM (v:=.lst xs) rfl r1 fun h₁ hk₁ ⟨T⟩=>?_);obtain ⟨fp,P,St,W,st,lt,new,off,ER,has,item⟩:=T;refine ⟨_,fp,[_],xs.length,_,St,fun i j=>decide ((a::r).getD j 0<(a::r).getD i 0),rfl,W.bound,st,lt,hpos,fun i j vi vj s' Q' E' hi hj hq=>?_,fun v' h' tk hP hk=>?_⟩
   ·exact (item i _ vi (hget i hi.1) hi.2).eY fun t=>(item j _ vj (hget j hj.1) hj.2).eY fun u=>gt_int hq
   ·have hk2:Kp s.heap h':=fun b o hb=>hk b o (fun q=>by rw [new b q] at hb;cases hb) (hk₁ _ _ hb);have h3:=item _ _ v' (hget _ hP.1) hP.2;have h4:=qh (c:=fun y x=>decide (x<y)) (l:=a::r) rfl;rw [hlen] at h4;rw [h4] at h3;exact os (P:=fun v=>Post X Mu s v Q→_) e (fun p=>p v' h' tk hk2 (h3.kp hk2)) p
 ·refine yJ (P:=fun xs=>RV X s.heap Mu (.lst xs) va→_) e (fun a b e r1=>ob e fun a' ha e=>ob e fun b' hb e=>ob e fun x h1 e=>ob e fun y h2 e=>?_) r1;exact fT (P:=fun a=>RV X s.heap Mu (.lst [a,b]) va→_) ha (fT (P:=fun b=>RV X s.heap Mu (.lst [_,b]) va→_) hb fun r1=>os (P:=fun v=>Post X Mu s v Q→_) e (fun p=>nH hh hu hM h1 h2 r1 p) p) r1
theorem Sh (hh:A.handled=none) (hu:A.units+1<9000) (hd:A.depth<900) (hM:∀a∈Mu,∃o,s.heap.get? a=some o) {k:BI} {args:List V}
  (e:v7 k args=some v) (ra:aE X s.heap Mu args jC) (p:Post X Mu s v Q):
  wpAny (model X.prog X.w) A (call (nJ k) jC) Q E s:=by
 cases k with
 |len=>
  refine fc e ra fun x y e r=>?_;cases x <;>first|exact no e|skip
  ·refine r.gT fun t hx=>PyProof.Rows.len_str (by rw [str_len];omega) ?_;rw [str_len];exact os (P:=fun v=>Post X Mu s v Q→_) e (fun p=>p.same _ ⟨_,rfl⟩) p
  ·refine r.j4 fun a vs _ hl hz r1=>PyProof.Rows.len_tuple hl (by simp;omega) ?_;rw [List.size_toArray,r1.length];exact os (P:=fun v=>Post X Mu s v Q→_) e (fun p=>p.same _ ⟨_,rfl⟩) p
  ·refine r.nC fun a vs _ hl hz r1=>Calls.call_len_list hl (by simp;omega) ?_;rw [List.size_toArray,r1.length];exact os (P:=fun v=>Post X Mu s v Q→_) e (fun p=>p.same _ ⟨_,rfl⟩) p
  ·obtain ⟨a,rfl,_,hs,hnd,hn⟩:=r;obtain ⟨o,es,ep,t,ho,hex,Z0,hel,hmem,_,hf,hsz⟩:=hs;refine call_len_set ho hex Z0 hf (by omega) ?_;rw [hsz];exact os (P:=fun v=>Post X Mu s v Q→_) e (fun p=>p.same _ ⟨_,rfl⟩) p
 |sum=>
  refine ob e fun xs h1 e=>ob e fun l hl e=>fc h1 ra fun x va e2 r1=>fT (P:=fun x=>RV X s.heap Mu x va→_) e2 (fun r1=>?_) r1;obtain ⟨hlen,hget⟩:=gB hl;refine call_sum_walkG (fO (A:=A.in1) (by simpa using hh) hM (v:=.lst xs) rfl r1 fun h₁ hk₁ ⟨T⟩=>?_);obtain ⟨fp,P,St,W,st,lt,new,off,ER,has,item⟩:=T;refine ⟨_,fp,[_],xs.length,_,St,fun i=>l.getD i 0,rfl,W.bound,st,lt,fun i v hv=>item i _ v (hget i hv.1) hv.2,fun h' tk t' hk=>?_⟩;have e1:preSum (fun i=>l.getD i 0) xs.length=l.sum:=by have:=preSum_eq l l.length (Nat.le_refl _);rw [List.take_length,hlen] at this;exact this
  rw [e1];exact os (P:=fun v=>Post X Mu s v Q→_) e (fun p=>p _ _ tk (fun b o hb=>hk b o (fun q=>by rw [new b q] at hb;cases hb) (hk₁ _ _ hb)) ⟨_,rfl⟩) p
 |min=>exact ob e fun xs h1 e=>fc h1 ra fun x va e2 r1=>fT (P:=fun x=>RV X s.heap Mu x va→_) e2 (fun r1=>wu hh hu hM e r1 p) r1
 |max=>exact ob e fun xs h1 e=>fc h1 ra fun x va e2 r1=>fT (P:=fun x=>RV X s.heap Mu x va→_) e2 (fun r1=>wz hh hu hM e r1 p) r1
 |range=>
  cases args with
  |nil=>exact no e
  |cons x r=>
   refine ob e fun a h1 e=>ra.gM fun x' r' rx rr=>fU h1 rx fun t=>?_;cases r with
   |nil=>exact rr.ue (oi e fun hb e=>call_range_1 (os (P:=fun v=>Post X Mu s v Q→_) e (fun p=>p _ _ _ aA ⟨_,_,_,_,rfl,bk hM,Heap.get?_push_size _ rfl,by decide,hb⟩) p))
   |cons y t=>
    refine ob e fun b h2 e1=>oi e1 fun hb e2=>ba hb fun hn hb=>ba hb fun h3 h4=>rr.gM fun y' t' ry rt=>fU h2 ry fun u=>?_;cases t with
    |cons _ _=>cases hn
    |nil=>exact rt.ue (call_range_2 (os (P:=fun v=>Post X Mu s v Q→_) e2 (fun p=>p _ _ _ aA ⟨_,_,_,_,rfl,bk hM,Heap.get?_push_size _ rfl,h3,h4⟩) p))
 |gj=> refine mF e ra fun x y x' y' e rx ry=>ob e fun a h1 e=>ob e fun n h2 e=>oi e fun hb e=>jD h1 rx fun t _=>rN h2 ry ?_;cases eq_of_beq hb;exact IsiPair.str_bytes (os (P:=fun v=>Post X Mu s v Q→_) e (fun p=>p.same _ rfl) p)
 |type=>exact ob e fun a h1 e=>fc h1 ra fun x y e2 r=>jD e2 r fun t _=>call_type_of (typeIs_str _ _ _) (by decide) (os (P:=fun v=>Post X Mu s v Q→_) e (fun p=>p.here rfl) p)
 |pT=> refine mF e ra fun x y x' y' e rx ry=>ob e fun n h1 e=>ob e fun l h2 e=>rN h1 rx (Cf h2 ry fun a vs _ ht _ rl=>?_);refine mF (P:=fun vs=>IsTup s.heap a vs.toArray→_) e rl (fun x y x' y' e rx ry=>ob e fun a' h3 e=>ob e fun b' h4 e=>oi e fun hb e=>ba hb fun hb q3=>ba hb fun q1 q2=>rN h3 rx (rN h4 ry fun ht=>?_)) ht;cases eq_of_beq q1;cases eq_of_beq q2;cases eq_of_beq q3;exact wQ (QN hu) hd ht fun tk=>os (P:=fun v=>Post X Mu s v Q→_) e (fun p=>p.same _ rfl) p
end
end
end
section
open PyProof.Rows PySem.Calls
section
noncomputable def nm (x:Nat):Str:=Str.ofString (nmT.getD x "")
noncomputable def fn (f:Nat):Str:=Str.ofString (fnT.getD f "")
noncomputable def gn (g:Nat):Str:=Str.ofString (glT.getD g "")
noncomputable def knd (sc:Scope) (x:Nat):Option NameKind:=sc.names.lookup (nm x)
noncomputable def ET (k:Option NameKind):Bool:=k==some .local||(k==some .cell||k==some .free)
noncomputable def uu (k:Option NameKind):Bool:=k==some .local||k==some .cell
theorem bo {a:Bool} {P:Prop} (h:(a||b)=true) (k1:a=true→P) (k2:b=true→P):P:=by
 cases a with
 |true=>exact k1 rfl
 |false=>exact k2 h
noncomputable def acc (sc:Scope) (x:Nat):Bool:=ET (knd sc x)
noncomputable def bnd (sc:Scope) (x:Nat):Bool:=uu (knd sc x)&&Nat.blt x 88
noncomputable def bz (sc:Scope) (n:Str):Bool:=sc.names.lookup n==some .globalImplicit
noncomputable def dY (scope outer:Scope):Scope:= {scope with names:=scope.names.map fun (n,k)=>if (k==.free&&outer.kind==.function&&outer.names.lookup n==some .cell) then (n,.cell) else (n,k)}
noncomputable def oA {α:Type} (x:Option α) (f:α→Bool):Bool:=match x with
 |some a=>f a
 |none=>false
theorem az {P:Prop} {x:Option α} {f:α→Bool} (h:oA x f=true) (k:∀a,x=some a→f a=true→P):P:=by
 cases x with
 |none=>exact nf h
 |some a=>exact k a rfl h
theorem bn {a:Bool} (h:(!a)=true):a=false:=by cases a <;>first|rfl|exact nf h
noncomputable def l1 {α:Type} (l:List α):Option α:=match l with
 |[]=>none
 |a::r=>if r.isEmpty then some a else none
theorem iE {P:List α→Prop} {l:List α} {a:α} (h:l1 l=some a) (k:P [a]):P l:=by
 cases l with
 |nil=>exact no h
 |cons b r=>exact oi h fun h1 h2=>bq (P:=fun r=>P (b::r)) h1 (os (P:=fun a=>P [a]→P [b]) h2 (fun k=>k) k)
theorem i6 {P:Option α→Prop} {o:Option α} (h:o.isNone=true) (k:P none):P o:=by
 cases o with
 |none=>exact k
 |some _=>exact nf h
noncomputable def Si {α:Type} (l:List α):Option (Option α):=match l with
 |[]=>some none
 |a::r=>if r.isEmpty then some (some a) else none
theorem EU {P:List α→Prop} {l:List α} {o:Option α} (h:Si l=some o) (k:P o.toList):P l:=by
 cases l with
 |nil=>exact os (P:=fun o=>P o.toList→P []) h (fun k=>k) k
 |cons a r=>exact oi h fun h1 h2=>bq (P:=fun r=>P (a::r)) h1 (os (P:=fun o=>P o.toList→P [a]) h2 (fun k=>k) k)
theorem dS {c:Prop} [Decidable c] {f:c→α} {q:α} {P:Prop} (h:(if h:c then some (f h) else none)=some q) (k:c→P):P:=by
 by_cases g:c
 ·exact k g
 ·rw [dif_neg g] at h;exact no h
noncomputable def Sj (e:Expr) (n:Nat):Bool:=Nat.beq e.ctorIdx n
noncomputable def Z1 (e:Stmt) (n:Nat):Bool:=Nat.beq e.ctorIdx n
noncomputable def wR (e:Expr):Option (Const):=if h:e.ctorIdx=19 then some (Expr.Constant.elim (motive_1:=fun _=>Const) e h fun c _ _=>c) else none
theorem zX {P:Expr→Prop} {q:Const} (h:wR e=some q) (k:∀i p,P (.Constant q i p)):P e:= dS h fun g=>Expr.Constant.elim (motive_1:=fun e=>wR e=some q→P e) e g (fun c i p h=>os (P:=fun q=>(∀i p,P (.Constant q i p))→P (.Constant c i p)) (show some c=some q from h) (fun k=>k i p) k) h
noncomputable def uv (e:Expr):Option (Str):=if h:e.ctorIdx=23 then some (Expr.Name.elim (motive_1:=fun _=>Str) e h fun n _=>n) else none
theorem nK {P:Expr→Prop} {q:Str} (h:uv e=some q) (k:∀p,P (.Name q p)):P e:= dS h fun g=>Expr.Name.elim (motive_1:=fun e=>uv e=some q→P e) e g (fun n p h=>os (P:=fun q=>(∀p,P (.Name q p))→P (.Name n p)) (show some n=some q from h) (fun k=>k p) k) h
noncomputable def JL (e:Expr):Option (Expr×Operator×Expr):=if h:e.ctorIdx=2 then some (Expr.BinOp.elim (motive_1:=fun _=>Expr×Operator×Expr) e h fun l o r _=>(l,o,r)) else none
theorem EW {P:Expr→Prop} {q:Expr×Operator×Expr} (h:JL e=some q) (k:∀p,P (.BinOp q.1 q.2.1 q.2.2 p)):P e:= dS h fun g=>Expr.BinOp.elim (motive_1:=fun e=>JL e=some q→P e) e g (fun l o r p h=>os (P:=fun q=>(∀p,P (.BinOp q.1 q.2.1 q.2.2 p))→P (.BinOp l o r p)) (show some (l,o,r)=some q from h) (fun k=>k p) k) h
noncomputable def UM (e:Expr):Option (UnaryOp×Expr):=if h:e.ctorIdx=3 then some (Expr.UnaryOp.elim (motive_1:=fun _=>UnaryOp×Expr) e h fun o a _=>(o,a)) else none
theorem CH {P:Expr→Prop} {q:UnaryOp×Expr} (h:UM e=some q) (k:∀p,P (.UnaryOp q.1 q.2 p)):P e:= dS h fun g=>Expr.UnaryOp.elim (motive_1:=fun e=>UM e=some q→P e) e g (fun o a p h=>os (P:=fun q=>(∀p,P (.UnaryOp q.1 q.2 p))→P (.UnaryOp o a p)) (show some (o,a)=some q from h) (fun k=>k p) k) h
noncomputable def vBool (e:Expr):Option (BoolOp×List Expr×Pos):=if h:e.ctorIdx=0 then some (Expr.BoolOp.elim (motive_1:=fun _=>BoolOp×List Expr×Pos) e h fun o a p=>(o,a,p)) else none
theorem CI {P:Expr→Prop} {q:BoolOp×List Expr×Pos} (h:vBool e=some q) (k:P (.BoolOp q.1 q.2.1 q.2.2)):P e:= dS h fun g=>Expr.BoolOp.elim (motive_1:=fun e=>vBool e=some q→P e) e g (fun o a p h=>os (P:=fun q=>(P (.BoolOp q.1 q.2.1 q.2.2))→P (.BoolOp o a p)) (show some (o,a,p)=some q from h) (fun k=>k) k) h
noncomputable def JM (e:Expr):Option (Expr×Expr×Expr):=if h:e.ctorIdx=5 then some (Expr.IfExp.elim (motive_1:=fun _=>Expr×Expr×Expr) e h fun a b c _=>(a,b,c)) else none
theorem EX {P:Expr→Prop} {q:Expr×Expr×Expr} (h:JM e=some q) (k:∀p,P (.IfExp q.1 q.2.1 q.2.2 p)):P e:= dS h fun g=>Expr.IfExp.elim (motive_1:=fun e=>JM e=some q→P e) e g (fun a b c p h=>os (P:=fun q=>(∀p,P (.IfExp q.1 q.2.1 q.2.2 p))→P (.IfExp a b c p)) (show some (a,b,c)=some q from h) (fun k=>k p) k) h
noncomputable def JN (e:Expr):Option (Expr×List CmpOp×List Expr):=if h:e.ctorIdx=15 then some (Expr.Compare.elim (motive_1:=fun _=>Expr×List CmpOp×List Expr) e h fun a b c _=>(a,b,c)) else none
theorem EY {P:Expr→Prop} {q:Expr×List CmpOp×List Expr} (h:JN e=some q) (k:∀p,P (.Compare q.1 q.2.1 q.2.2 p)):P e:= dS h fun g=>Expr.Compare.elim (motive_1:=fun e=>JN e=some q→P e) e g (fun a b c p h=>os (P:=fun q=>(∀p,P (.Compare q.1 q.2.1 q.2.2 p))→P (.Compare a b c p)) (show some (a,b,c)=some q from h) (fun k=>k p) k) h
noncomputable def yK (e:Expr):Option (List Expr):=if h:e.ctorIdx=24 then some (Expr.List.elim (motive_1:=fun _=>List Expr) e h fun a _=>a) else none
theorem uw {P:Expr→Prop} {q:List Expr} (h:yK e=some q) (k:∀p,P (.List q p)):P e:= dS h fun g=>Expr.List.elim (motive_1:=fun e=>yK e=some q→P e) e g (fun a p h=>os (P:=fun q=>(∀p,P (.List q p))→P (.List a p)) (show some a=some q from h) (fun k=>k p) k) h
noncomputable def wU (e:Expr):Option (List Expr):=if h:e.ctorIdx=25 then some (Expr.Tuple.elim (motive_1:=fun _=>List Expr) e h fun a _ _=>a) else none
theorem yL {P:Expr→Prop} {q:List Expr} (h:wU e=some q) (k:∀i p,P (.Tuple q i p)):P e:= dS h fun g=>Expr.Tuple.elim (motive_1:=fun e=>wU e=some q→P e) e g (fun a i p h=>os (P:=fun q=>(∀i p,P (.Tuple q i p))→P (.Tuple a i p)) (show some a=some q from h) (fun k=>k i p) k) h
noncomputable def JO (e:Expr):Option (List Expr×Nat):=if h:e.ctorIdx=7 then some (Expr.Set.elim (motive_1:=fun _=>List Expr×Nat) e h fun a i _=>(a,i)) else none
theorem EZ {P:Expr→Prop} {q:List Expr×Nat} (h:JO e=some q) (k:∀p,P (.Set q.1 q.2 p)):P e:= dS h fun g=>Expr.Set.elim (motive_1:=fun e=>JO e=some q→P e) e g (fun a i p h=>os (P:=fun q=>(∀p,P (.Set q.1 q.2 p))→P (.Set a i p)) (show some (a,i)=some q from h) (fun k=>k p) k) h
noncomputable def ux (e:Expr):Option (Expr×Expr):=if h:e.ctorIdx=21 then some (Expr.Subscript.elim (motive_1:=fun _=>Expr×Expr) e h fun a b _=>(a,b)) else none
theorem i7 {P:Expr→Prop} {q:Expr×Expr} (h:ux e=some q) (k:∀p,P (.Subscript q.1 q.2 p)):P e:= dS h fun g=>Expr.Subscript.elim (motive_1:=fun e=>ux e=some q→P e) e g (fun a b p h=>os (P:=fun q=>(∀p,P (.Subscript q.1 q.2 p))→P (.Subscript a b p)) (show some (a,b)=some q from h) (fun k=>k p) k) h
noncomputable def nL (e:Expr):Option (Option Expr×Option Expr×Option Expr):=if h:e.ctorIdx=26 then some (Expr.Slice.elim (motive_1:=fun _=>Option Expr×Option Expr×Option Expr) e h fun a b c _=>(a,b,c)) else none
theorem kY {P:Expr→Prop} {q:Option Expr×Option Expr×Option Expr} (h:nL e=some q) (k:∀p,P (.Slice q.1 q.2.1 q.2.2 p)):P e:= dS h fun g=>Expr.Slice.elim (motive_1:=fun e=>nL e=some q→P e) e g (fun a b c p h=>os (P:=fun q=>(∀p,P (.Slice q.1 q.2.1 q.2.2 p))→P (.Slice a b c p)) (show some (a,b,c)=some q from h) (fun k=>k p) k) h
noncomputable def JP (e:Expr):Option (Expr×Str×Pos):=if h:e.ctorIdx=20 then some (Expr.Attribute.elim (motive_1:=fun _=>Expr×Str×Pos) e h fun a b p=>(a,b,p)) else none
theorem E0 {P:Expr→Prop} {q:Expr×Str×Pos} (h:JP e=some q) (k:P (.Attribute q.1 q.2.1 q.2.2)):P e:= dS h fun g=>Expr.Attribute.elim (motive_1:=fun e=>JP e=some q→P e) e g (fun a b p h=>os (P:=fun q=>(P (.Attribute q.1 q.2.1 q.2.2))→P (.Attribute a b p)) (show some (a,b,p)=some q from h) (fun k=>k) k) h
noncomputable def UN (e:Expr):Option (Expr×List Expr×List Keyword×Pos):=if h:e.ctorIdx=16 then some (Expr.Call.elim (motive_1:=fun _=>Expr×List Expr×List Keyword×Pos) e h fun a b c p=>(a,b,c,p)) else none
theorem CJ {P:Expr→Prop} {q:Expr×List Expr×List Keyword×Pos} (h:UN e=some q) (k:P (.Call q.1 q.2.1 q.2.2.1 q.2.2.2)):P e:= dS h fun g=>Expr.Call.elim (motive_1:=fun e=>UN e=some q→P e) e g (fun a b c p h=>os (P:=fun q=>(P (.Call q.1 q.2.1 q.2.2.1 q.2.2.2))→P (.Call a b c p)) (show some (a,b,c,p)=some q from h) (fun k=>k) k) h
noncomputable def Xb (e:Expr):Option (Expr×List Comprehension×Scope):=if h:e.ctorIdx=8 then some (Expr.ListComp.elim (motive_1:=fun _=>Expr×List Comprehension×Scope) e h fun a b c _=>(a,b,c)) else none
theorem JQ {P:Expr→Prop} {q:Expr×List Comprehension×Scope} (h:Xb e=some q) (k:∀p,P (.ListComp q.1 q.2.1 q.2.2 p)):P e:= dS h fun g=>Expr.ListComp.elim (motive_1:=fun e=>Xb e=some q→P e) e g (fun a b c p h=>os (P:=fun q=>(∀p,P (.ListComp q.1 q.2.1 q.2.2 p))→P (.ListComp a b c p)) (show some (a,b,c)=some q from h) (fun k=>k p) k) h
noncomputable def Xc (e:Expr):Option (Expr×List Comprehension×Scope):=if h:e.ctorIdx=9 then some (Expr.SetComp.elim (motive_1:=fun _=>Expr×List Comprehension×Scope) e h fun a b c _=>(a,b,c)) else none
theorem JR {P:Expr→Prop} {q:Expr×List Comprehension×Scope} (h:Xc e=some q) (k:∀p,P (.SetComp q.1 q.2.1 q.2.2 p)):P e:= dS h fun g=>Expr.SetComp.elim (motive_1:=fun e=>Xc e=some q→P e) e g (fun a b c p h=>os (P:=fun q=>(∀p,P (.SetComp q.1 q.2.1 q.2.2 p))→P (.SetComp a b c p)) (show some (a,b,c)=some q from h) (fun k=>k p) k) h
noncomputable def dg (e:Expr):Bool:=Sj e 22
noncomputable def dD (e:Expr):Bool:=Sj e 7
noncomputable def r8 (e:Expr):Option (Str×List Expr×List Keyword):=(UN e).bind fun q=>(uv q.1).bind fun n=>some (n,q.2.1,q.2.2.1)
noncomputable def j7 (e:Expr):Option (Str×List Expr):=(r8 e).bind fun q=>if q.2.2.isEmpty then some (q.1,q.2.1) else none
noncomputable def uy (e:Expr):Option (Expr×Str×List Expr):=(UN e).bind fun q=>(JP q.1).bind fun a=>if q.2.2.1.isEmpty&&(a.2.2.endLine==q.2.2.2.line) then some (a.1,a.2.1,q.2.1) else none
theorem qi {P:Expr→Prop} {q:Str×List Expr×List Keyword} (h:r8 e=some q) (k:∀np p,P (.Call (.Name q.1 np) q.2.1 q.2.2 p)):P e:= ob h fun c h1 h=>ob h fun n h2 h=>CJ h1 (nK (P:=fun f=>P (.Call f _ _ _)) h2 fun np=>by cases h;exact k np _)
theorem ef {P:Expr→Prop} {q:Str×List Expr} (h:j7 e=some q) (k:∀np p,P (.Call (.Name q.1 np) q.2 [] p)):P e:= ob h fun c h1 h=>oi h fun h2 h=>qi h1 fun np p=>bq (P:=fun l=>P (.Call _ _ l _)) h2 (by cases h;exact k np p)
theorem j8 {P:Expr→Prop} {q:Expr×Str×List Expr} (h:uy e=some q) (k:∀ap p,(ap.endLine==p.line)=true→P (.Call (.Attribute q.1 q.2.1 ap) q.2.2 [] p)):P e:=
 ob h fun c h1 h=>ob h fun n h2 h=>oi h fun h3 h=>ba h3 fun h3 h4=>CJ h1 (E0 (P:=fun f=>P (.Call f _ _ _)) h2 (bq (P:=fun l=>P (.Call _ _ l _)) h3
  (by cases h;exact k _ _ h4)))
noncomputable def iF (e:Expr):Bool:=oA (r8 e) fun q=>q.2.1.isEmpty&&q.2.2.isEmpty
noncomputable def vG (l:List Comprehension):Option (Expr×Expr×List Expr):=(l1 l).bind fun c=>if c.is_async==0 then some (c.target,c.iter,c.ifs) else none
theorem H8 {P:List Comprehension→Prop} {l:List Comprehension} {q:Expr×Expr×List Expr} (h:vG l=some q) (k:P [⟨q.1,q.2.1,q.2.2,0⟩]):P l:=by refine ob h fun c h1 h=>oi h fun h2 h=>iE h1 ?_;obtain ⟨a,b,c,d⟩:=c;cases eq_of_beq h2;cases h;exact k
noncomputable def Xd (c:Const):Bool:=Nat.beq c.ctorIdx 0
noncomputable def Xe (e:Const):Option Bool:=if h:e.ctorIdx=1 then some (Const.bool.elim (motive:=fun _=>Bool) e h fun a=>a) else none
theorem JS {P:Const→Prop} {e:Const} {q:Bool} (h:Xe e=some q) (k:P (.bool q)):P e:= dS h fun g=>Const.bool.elim (motive:=fun e=>Xe e=some q→P e) e g (fun a h=>os (P:=fun q=>P (.bool q)→P (.bool a)) (show some a=some q from h) (fun k=>k) k) h
noncomputable def Xf (e:Const):Option Int:=if h:e.ctorIdx=2 then some (Const.int.elim (motive:=fun _=>Int) e h fun a=>a) else none
theorem JT {P:Const→Prop} {e:Const} {q:Int} (h:Xf e=some q) (k:P (.int q)):P e:= dS h fun g=>Const.int.elim (motive:=fun e=>Xf e=some q→P e) e g (fun a h=>os (P:=fun q=>P (.int q)→P (.int a)) (show some a=some q from h) (fun k=>k) k) h
noncomputable def Xg (e:Const):Option Str:=if h:e.ctorIdx=5 then some (Const.str.elim (motive:=fun _=>Str) e h fun a=>a) else none
theorem JU {P:Const→Prop} {e:Const} {q:Str} (h:Xg e=some q) (k:P (.str q)):P e:= dS h fun g=>Const.str.elim (motive:=fun e=>Xg e=some q→P e) e g (fun a h=>os (P:=fun q=>P (.str q)→P (.str a)) (show some a=some q from h) (fun k=>k) k) h
noncomputable def Xh (v:V) (c:Const):Bool:=match v with
 |.none=>Xd c
 |.bool a=>oA (Xe c) fun b=>a==b
 |.int a=>oA (Xf c) fun b=>a==b
 |.str l=>oA (Xg c) fun x=>x==aC l&&ck l.length
 |_=>false
theorem JV {P:V→Const→Prop} {c:Const} (h:Xh v c=true) (k1:P .none .none) (k2:∀b,P (.bool b) (.bool b)) (k3:∀i,P (.int i) (.int i)) (k4:∀l,ck l.length=true→P (.str l) (.str (aC l))):P v c:=by
 cases v <;>first|exact nf h|skip
 ·exact Const.none.elim (motive:=fun c=>P .none c) c (Nat.eq_of_beq_eq_true h) k1
 ·exact az h fun b h1 h2=>JS (P:=fun c=>P _ c) h1 (eq_of_beq h2▸k2 _)
 ·exact az h fun b h1 h2=>JT (P:=fun c=>P _ c) h1 (eq_of_beq h2▸k3 _)
 ·exact az h fun b h1 h2=>ba h2 fun h2 h3=>JU (P:=fun c=>P _ c) h1 ((eq_of_beq h2).symm▸k4 _ h3)
noncomputable def CK (sc:Scope) (x:Nat) (e:Expr):Bool:=oA (uv e) fun n=>n==nm x&&n !=("__debug__":Str)&&n !=("__classdict__":Str)
noncomputable def eg (sc:Scope) (x:Nat) (e:Expr):Bool:=CK sc x e&&acc sc x
noncomputable def pD (sc:Scope) (x:Nat) (e:Expr):Bool:=CK sc x e&&bnd sc x
noncomputable def nM (sc:Scope):List Nat→List Expr→Bool
 |[],es=>es.isEmpty
 |x::xs,es=>match es with
  |[]=>false
  |e::es=>pD sc x e&&nM sc xs es
noncomputable def mw (sc:Scope) (tg:Tg) (e:Expr):Bool:=match tg with
 |.one x=>pD sc x e
 |.many xs=>oA (wU e) fun es=>nM sc xs es&&Nat.ble 1 es.length&&Nat.ble es.length 10
noncomputable def aT:Tg→List Nat
 |.one x=>[x]
 |.many xs=>xs
noncomputable def qj (sc:Scope) (n:Str) (e:Expr):Bool:=oA (uv e) fun k=>k==n&&bz sc n&&n !=("__debug__":Str)
theorem lP {a b:Str} (h:(a !=b)=true):a≠b:=bne_iff_ne.mp h
section
variable {P:Expr→Prop} {e:Expr} {sc:Scope} {x:Nat}
theorem uz (h:CK sc x e=true) (k:∀p,nm x≠("__debug__":Str)→nm x≠("__classdict__":Str)→P (.Name (nm x) p)):P e:= az h fun n h1 h2=>ba h2 fun h2 h4=>ba h2 fun h2 h3=>nK h1 fun p=>by cases eq_of_beq h2;exact k p (lP h3) (lP h4)
theorem j9 (h:eg sc x e=true) (k:∀p,nm x≠("__debug__":Str)→nm x≠("__classdict__":Str)→acc sc x=true→P (.Name (nm x) p)):P e:=ba h fun h1 h2=>uz h1 fun p h3 h4=>k p h3 h4 h2
theorem gC (h:pD sc x e=true) (k:∀p,nm x≠("__debug__":Str)→nm x≠("__classdict__":Str)→bnd sc x=true→P (.Name (nm x) p)):P e:=ba h fun h1 h2=>uz h1 fun p h3 h4=>k p h3 h4 h2
theorem uA {n:Str} (h:qj sc n e=true) (k:∀p,bz sc n=true→n≠("__debug__":Str)→P (.Name n p)):P e:= az h fun m h1 h2=>ba h2 fun h2 h4=>ba h2 fun h2 h3=>nK h1 fun p=>by cases eq_of_beq h2;exact k p h3 (lP h4)
theorem i8 {xs:List Nat} (h:mw sc (.many xs) e=true) (k:∀es i p,nM sc xs es=true→P (.Tuple es i p)):P e:= az h fun es h1 h2=>ba h2 fun h2 _=>ba h2 fun h2 _=>yL h1 fun i p=>k es i p h2
end
theorem uB {sc:Scope} {xs:List Nat} {P:List Expr→Prop} {es:List Expr} (h:nM sc (x::xs) es=true) (k:∀e r,pD sc x e=true→nM sc xs r=true→P (e::r)):P es:=by
 cases es with
 |nil=>exact nf h
 |cons e r=>exact ba h fun h1 h2=>k e r h1 h2
noncomputable def nN:BI→Str
 |.len=>"len"|.sum=>"sum"|.min=>"min"|.max=>"max"|.range=>"range"|.gj=>"isinstance"|.type=>"type"|.pT=>"issubclass"
noncomputable def dh:List Str→Bool
 |[]=>true
 |x::r=>!r.contains x&&dh r
noncomputable def r9 (outer sc:Scope) (tg:Tg):Bool:=
 sc.kind==.function&&dh (sc.names.map (·.1))&&((aT tg).all fun x=>uu (knd sc x))&&
 sc.names.all fun (n,k)=>match k with
  |.free=>outer.names.lookup n==some .cell||outer.names.lookup n==some .free
  |.local|.cell=>n==(".0":Str)||(aT tg).any fun x=>nm x==n
  |_=>true
noncomputable def wV (o:BoolOp) (q:BoolOp×List Expr×Pos):Option (Expr×Expr×List Expr×Pos):=match q.2.1 with
 |[]=>none
 |a::r=>match r with
  |[]=>none
  |b::t=>if decide (q.1=o) then some (a,b,t,q.2.2) else none
theorem qk {P:Expr→Prop} {o:BoolOp} {q:BoolOp×List Expr×Pos} {c:Expr×Expr×List Expr×Pos} (h:vBool e=some q) (h1:wV o q=some c) (k:P (.BoolOp o (c.1::c.2.1::c.2.2.1) c.2.2.2)):P e:=by
 refine CI h ?_;obtain ⟨a,l,p⟩:=q;cases l with
 |nil=>exact no h1
 |cons x l=>
  cases l with
  |nil=>exact no h1
  |cons y l=> refine oi h1 fun h2 h3=>?_;cases of_decide_eq_true h2;cases h3;exact k
noncomputable def dR (o:BoolOp) (b:Expr) (t:List Expr) (p:Pos):Expr:=match t with
 |[]=>b
 |c::r=>.BoolOp o (b::c::r) p
mutual
noncomputable def mE (sc:Scope):PE→Expr→Bool
 |.cn v,e=>oA (wR e) fun c=>Xh v c
 |.var x,e=>eg sc x e
 |.gl g,e=>Nat.blt g 5&&qj sc (gn g) e
 |.bin op l r,e=>oA (JL e) fun q=>decide (q.2.1=zM op)&&mE sc l q.1&&mE sc r q.2.2
 |.not x,e=>oA (UM e) fun q=>decide (q.1=.Not)&&mE sc x q.2
 |.neg x,e=>oA (UM e) fun q=>decide (q.1=.USub)&&mE sc x q.2
 |.and l r,e=>oA (vBool e) fun q=>oA (wV .And q) fun c=>mE sc l c.1&&mE sc r (dR .And c.2.1 c.2.2.1 c.2.2.2)
 |.or l r,e=>oA (vBool e) fun q=>oA (wV .Or q) fun c=>mE sc l c.1&&mE sc r (dR .Or c.2.1 c.2.2.1 c.2.2.2)
 |.ite t a b,e=>oA (JM e) fun q=>mE sc t q.1&&mE sc a q.2.1&&mE sc b q.2.2
 |.cmp op l r,e=>oA (JN e) fun q=>oA (l1 q.2.1) fun o=>oA (l1 q.2.2) fun b=>decide (o=Jz op)&&mE sc l q.1&&mE sc r b&&!dD b
 |.lst es,e=>oA (yK e) fun xs=>mH sc es xs
 |.tup es,e=>oA (wU e) fun xs=>mH sc es xs
 |.fk x,e=>oA (JO e) fun q=>q.2==0&&oA (l1 q.1) fun a=>mE sc x a&&!dg a
 |.idx o i,e=>oA (ux e) fun q=>mE sc o q.1&&mE sc i q.2
 |.slc o lo hi st,e=>oA (ux e) fun q=>mE sc o q.1&&oA (nL q.2) fun z=>mO sc lo z.1&&mO sc hi z.2.1&&mO sc st z.2.2
 |.call f args,e=>oA (j7 e) fun q=>q.1==fn f&&Nat.blt f 30&&bz sc (fn f)&&fn f !=("__debug__":Str)&&mH sc args q.2
 |.ic f args kws,e=>oA (r8 e) fun q=>q.1==fn f&&Nat.blt f 30&&bz sc (fn f)&&fn f !=("__debug__":Str)&&mH sc args q.2.1&&mK sc kws q.2.2&&!q.2.1.isEmpty
 |.bi b args,e=>oA (j7 e) fun q=>q.1==nN b&&bz sc (nN b)&&nN b !=("__debug__":Str)&&mH sc args q.2
 |.gk f x,e=>oA (j7 e) fun q=>q.1==("tuple":Str)&&bz sc ("tuple":Str)&&oA (l1 q.2) fun a=>oA (j7 a) fun z=>z.1==("map":Str)&&bz sc ("map":Str)&&oA (uC z.2) fun b=>oA (l1 b.2) fun c=>qj sc (fn f) b.1&&Nat.blt f 30&&mE sc x c&&!dg c
 |.bZ k o args,e=>oA (uy e) fun q=>q.2.1==wL k&&mE sc o q.1&&!iF q.1&&mH sc args q.2.2&&Nat.ble q.2.2.length 20
 |.comp elt tg it ifs,e=>oA (Xb e) fun q=>oA (vG q.2.1) fun g=>mE sc it g.2.1&&!dD g.2.1&&r9 sc q.2.2 tg&&mw (dY q.2.2 sc) tg g.1&&mE (dY q.2.2 sc) elt q.1&&oA (Si g.2.2) fun o=>mO (dY q.2.2 sc) ifs o
 |.cR x,e=>oA (j7 e) fun q=>q.1==("len":Str)&&bz sc ("len":Str)&&oA (l1 q.2) fun a=>eg sc x a
 |.cJ x,e=>eg sc x e
 |.aH x i,e=>oA (ux e) fun q=>eg sc x q.1&&mE sc i q.2
 |.gm x lo,e=>oA (ux e) fun q=>eg sc x q.1&&oA (nL q.2) fun z=>z.2.1.isNone&&z.2.2.isNone&&oA z.1 fun l=>mE sc lo l
 |.bad,_=>true
noncomputable def mH (sc:Scope):List PE→List Expr→Bool
 |[],es=>es.isEmpty
 |a::r,es=>match es with
  |[]=>false
  |x::xs=>mE sc a x&&!dg x&&mH sc r xs
noncomputable def mO (sc:Scope):Option PE→Option Expr→Bool
 |none,e=>e.isNone
 |some a,e=>oA e fun x=>mE sc a x
noncomputable def mK (sc:Scope):List (Nat×PE)→List Keyword→Bool
 |[],ks=>ks.isEmpty
 |(n,a)::r,ks=>match ks with
  |[]=>false
  |k::xs=>oA k.arg (fun j=>j==nm n)&&mE sc a k.value&&mK sc r xs
end
section
variable {P:Expr→Prop} {e:Expr} {sc:Scope}
theorem CL (h:mE sc (.cn v) e=true) (k:∀c i p,Xh v c=true→P (.Constant c i p)):P e:=az h fun c h1 h2=>zX h1 fun i p=>k c i p h2
theorem ql {op:Op} {l:PE} (h:mE sc (.bin op l r) e=true) (k:∀a b p,mE sc l a=true→mE sc r b=true→P (.BinOp a (zM op) b p)):P e:= az h fun q h1 h2=>ba h2 fun h2 h4=>ba h2 fun h2 h3=>EW h1 fun p=>of_decide_eq_true h2▸k _ _ p h3 h4
theorem zY {x:PE} (h:mE sc (.not x) e=true) (k:∀a p,mE sc x a=true→P (.UnaryOp .Not a p)):P e:= az h fun q h1 h2=>ba h2 fun h2 h3=>CH h1 fun p=>(of_decide_eq_true h2).symm▸k _ p h3
theorem zZ {x:PE} (h:mE sc (.neg x) e=true) (k:∀a p,mE sc x a=true→P (.UnaryOp .USub a p)):P e:= az h fun q h1 h2=>ba h2 fun h2 h3=>CH h1 fun p=>(of_decide_eq_true h2).symm▸k _ p h3
theorem qm {l:PE} (h:mE sc (.and l r) e=true) (k:∀a b t p,mE sc l a=true→mE sc r (dR .And b t p)=true→P (.BoolOp .And (a::b::t) p)):P e:= az h fun q h1 h2=>az h2 fun c h2 h3=>ba h3 fun h3 h4=>qk h1 h2 (k _ _ _ _ h3 h4)
theorem uD {l:PE} (h:mE sc (.or l r) e=true) (k:∀a b t p,mE sc l a=true→mE sc r (dR .Or b t p)=true→P (.BoolOp .Or (a::b::t) p)):P e:= az h fun q h1 h2=>az h2 fun c h2 h3=>ba h3 fun h3 h4=>qk h1 h2 (k _ _ _ _ h3 h4)
theorem qn {t a b:PE} (h:mE sc (.ite t a b) e=true) (k:∀x y z p,mE sc t x=true→mE sc a y=true→mE sc b z=true→P (.IfExp x y z p)):P e:= az h fun q h1 h2=>ba h2 fun h2 h4=>ba h2 fun h2 h3=>EX h1 fun p=>k _ _ _ p h2 h3 h4
theorem qo {op:Cp} {l:PE} (h:mE sc (.cmp op l r) e=true) (k:∀a b p,mE sc l a=true→mE sc r b=true→dD b=false→P (.Compare a [Jz op] [b] p)):P e:= az h fun q h1 h2=>az h2 fun o h3 h2=>az h2 fun b h4 h2=>ba h2 fun h2 h7=>ba h2 fun h2 h6=>ba h2 fun h2 h5=>EY h1 fun p=> iE (P:=fun l=>P (.Compare _ l _ _)) h3 (iE (P:=fun l=>P (.Compare _ _ l _)) h4 ((of_decide_eq_true h2).symm▸k _ b p h5 h6 (bn h7)))
theorem z5 {es:List PE} (h:mE sc (.lst es) e=true) (k:∀xs p,mH sc es xs=true→P (.List xs p)):P e:=az h fun xs h1 h2=>uw h1 fun p=>k xs p h2
theorem z6 {es:List PE} (h:mE sc (.tup es) e=true) (k:∀xs i p,mH sc es xs=true→P (.Tuple xs i p)):P e:=az h fun xs h1 h2=>yL h1 fun i p=>k xs i p h2
theorem wW {x:PE} (h:mE sc (.fk x) e=true) (k:∀a p,mE sc x a=true→dg a=false→P (.Set [a] 0 p)):P e:= az h fun q h1 h2=>ba h2 fun h2 h3=>az h3 fun a h3 h4=>ba h4 fun h4 h5=>EZ h1 fun p=>iE (P:=fun l=>P (.Set l _ _)) h3 ((eq_of_beq h2).symm▸k a p h4 (bn h5))
theorem qp {o i:PE} (h:mE sc (.idx o i) e=true) (k:∀a b p,mE sc o a=true→mE sc i b=true→P (.Subscript a b p)):P e:= az h fun q h1 h2=>ba h2 fun h2 h3=>i7 h1 fun p=>k _ _ p h2 h3
theorem z7 {o:PE} {lo hi st:Option PE} (h:mE sc (.slc o lo hi st) e=true) (k:∀a l u s p' p,mE sc o a=true→mO sc lo l=true→mO sc hi u=true→mO sc st s=true→P (.Subscript a (.Slice l u s p') p)):P e:= az h fun q h1 h2=>ba h2 fun h2 h3=>az h3 fun z h3 h4=>ba h4 fun h4 h6=>ba h4 fun h4 h5=>i7 h1 fun p=>kY (P:=fun b=>P (.Subscript _ b p)) h3 fun p'=>k _ _ _ _ p' p h2 h4 h5 h6
theorem nO {args:List PE} (h:mE sc (.call f args) e=true) (k:∀np xs p,f<30→bz sc (fn f)=true→fn f≠("__debug__":Str)→mH sc args xs=true→P (.Call (.Name (fn f) np) xs [] p)):P e:= az h fun q h1 h2=>ba h2 fun h2 h6=>ba h2 fun h2 h5=>ba h2 fun h2 h4=>ba h2 fun h2 h3=>ef h1 fun np p=>(eq_of_beq h2).symm▸k np _ p (Nat.le_of_ble_eq_true h3) h4 (lP h5) h6
theorem lQ {args:List PE} {kws:List (Nat×PE)} (h:mE sc (.ic f args kws) e=true)
  (k:∀np xs ks p,f<30→bz sc (fn f)=true→fn f≠("__debug__":Str)→mH sc args xs=true→mK sc kws ks=true→xs.isEmpty=false→P (.Call (.Name (fn f) np) xs ks p)):P e:=
 az h fun q h1 h2=>ba h2 fun h2 h8=>ba h2 fun h2 h7=>ba h2 fun h2 h6=>ba h2 fun h2 h5=>ba h2 fun h2 h4=>ba h2 fun h2 h3=>qi h1 fun np p=>(eq_of_beq h2).symm▸k np _ _ p (Nat.le_of_ble_eq_true h3) h4 (lP h5) h6 h7 (bn h8)
theorem uE {b:BI} {args:List PE} (h:mE sc (.bi b args) e=true) (k:∀np xs p,bz sc (nN b)=true→nN b≠("__debug__":Str)→mH sc args xs=true→P (.Call (.Name (nN b) np) xs [] p)):P e:= az h fun q h1 h2=>ba h2 fun h2 h6=>ba h2 fun h2 h5=>ba h2 fun h2 h4=>ef h1 fun np p=>(eq_of_beq h2).symm▸k np _ p h4 (lP h5) h6
theorem sd {x:PE} (h:mE sc (.gk f x) e=true)
  (k:∀b c np UO p2 p,bz sc ("tuple":Str)=true→bz sc ("map":Str)=true→qj sc (fn f) b=true→f<30→mE sc x c=true→dg c=false→P (.Call (.Name ("tuple":Str) np) [.Call (.Name ("map":Str) UO) [b,c] [] p2] [] p)):P e:=by
 refine az h fun q h1 h2=>ba h2 fun h2 h3=>ba h2 fun h2 h4=>az h3 fun a h3 h5=>az h5 fun z h5 h6=>ba h6 fun h6 h7=>ba h6 fun h6 h8=>?_;refine az h7 fun b h7 h9=>az h9 fun c hc h9=>ba h9 fun h9 g1=>ba h9 fun h9 g2=>ba h9 fun h9 g3=>ef h1 fun np p=>(eq_of_beq h2).symm▸iE (P:=fun l=>P (.Call _ l _ _)) h3 ?_;exact ef (P:=fun a=>P (.Call _ [a] _ _)) h5 fun UO p2=>(eq_of_beq h6).symm▸jP (P:=fun l=>P (.Call _ [.Call _ l _ _] _ _)) h7 (iE (P:=fun r=>P (.Call _ [.Call _ (_::r) _ _] _ _)) hc (k _ c np UO p2 p h4 h8 h9 (Nat.le_of_ble_eq_true g3) g2 (bn g1)))
theorem nP {m:MT} {o:PE} {args:List PE} (h:mE sc (.bZ m o args) e=true)
  (k:∀a ap xs p,(ap.endLine==p.line)=true→mE sc o a=true→iF a=false→mH sc args xs=true→xs.length≤20→P (.Call (.Attribute a (wL m) ap) xs [] p)):P e:=
 az h fun q h1 h2=>ba h2 fun h2 h6=>ba h2 fun h2 h5=>ba h2 fun h2 h4=>ba h2 fun h2 h3=>j8 h1 fun ap p hl=>(eq_of_beq h2).symm▸k _ ap _ p hl h3 (bn h4) h5 (Nat.le_of_ble_eq_true h6)
theorem nQ {elt:PE} {ifs:Option PE} (h:mE sc (.comp elt tg it ifs) e=true)
  (k:∀a t i o s p,mE sc it i=true→dD i=false→r9 sc s tg=true→mw (dY s sc) tg t=true→mE (dY s sc) elt a=true→mO (dY s sc) ifs o=true→P (.ListComp a [⟨t,i,o.toList,0⟩] s p)):P e:=
 az h fun q h1 h2=>az h2 fun g h2 h3=>ba h3 fun h3 h8=>ba h3 fun h3 h7=>ba h3 fun h3 h6=>ba h3 fun h3 h5=>ba h3 fun h3 h4=>az h8 fun o h8 h9=>JQ h1 fun p=>H8 (P:=fun l=>P (.ListComp _ l _ _)) h2
  (EU (P:=fun l=>P (.ListComp _ [⟨_,_,l,_⟩] _ _)) h8 (k _ _ _ _ _ p h3 (bn h4) h5 h6 h7 h9))
theorem sf (h:mE sc (.cR x) e=true) (k:∀np a p,bz sc ("len":Str)=true→eg sc x a=true→P (.Call (.Name ("len":Str) np) [a] [] p)):P e:= az h fun q h1 h2=>ba h2 fun h2 h5=>ba h2 fun h2 h4=>az h5 fun a h5 h6=>ef h1 fun np p=>iE (P:=fun l=>P (.Call _ l _ _)) h5 ((eq_of_beq h2).symm▸k np _ p h4 h6)
theorem sj {i:PE} (h:mE sc (.aH x i) e=true) (k:∀a b p,eg sc x a=true→mE sc i b=true→P (.Subscript a b p)):P e:= az h fun q h1 h2=>ba h2 fun h2 h3=>i7 h1 fun p=>k _ _ p h2 h3
theorem yM {P:Option α→Prop} {o:Option α} {a:α} (h:o=some a) (k:P (some a)):P o:=h▸k
theorem uF {a:PE} {o:Option Expr} {P:Option Expr→Prop} (h:mO sc (some a) o=true) (k:∀x,mE sc a x=true→P (some x)):P o:=az h fun x h1 h2=>yM h1 (k x h2)
theorem sq (h:mE sc (.gm x lo) e=true) (k:∀a l p' p,eg sc x a=true→mE sc lo l=true→P (.Subscript a (.Slice (some l) none none p') p)):P e:= az h fun q h1 h2=>ba h2 fun h2 h3=>az h3 fun z h3 h4=>ba h4 fun h4 h5=>ba h4 fun h4 h6=>i7 h1 fun p=>kY (P:=fun b=>P (.Subscript _ b p)) h3 fun p'=> uF (P:=fun o=>P (.Subscript _ (.Slice o _ _ _) p)) h5 fun l h7=>i6 (P:=fun o=>P (.Subscript _ (.Slice _ o _ _) p)) h4 (i6 (P:=fun o=>P (.Subscript _ (.Slice _ _ o _) p)) h6 (k _ l p' p h2 h7))
theorem sA {a:PE} {r:List PE} {es:List Expr} {P:List Expr→Prop} (h:mH sc (a::r) es=true) (k:∀x xs,mE sc a x=true→dg x=false→mH sc r xs=true→P (x::xs)):P es:=by
 cases es with
 |nil=>exact nf h
 |cons x xs=>exact ba h fun h h3=>ba h fun h1 h2=>k x xs h1 (bn h2) h3
theorem H9 {n:Nat} {a:PE} {r:List (Nat×PE)} {ks:List Keyword} {P:List Keyword→Prop} (h:mK sc ((n,a)::r) ks=true) (k:∀x p xs,mE sc a x=true→mK sc r xs=true→P (⟨some (nm n),x,p⟩::xs)):P ks:=by
 cases ks with
 |nil=>exact nf h
 |cons y xs=> obtain ⟨g,x,p⟩:=y;exact ba h fun h h3=>ba h fun h h4=>az h fun j h1 h2=>yM (P:=fun o=>P (⟨o,x,p⟩::xs)) h1 ((eq_of_beq h2).symm▸k x p xs h4 h3)
end
noncomputable def Xj (e:Stmt):Option (List Expr×Expr):=if h:e.ctorIdx=5 then some (Stmt.Assign.elim (motive_2:=fun _=>List Expr×Expr) e h fun a b _=>(a,b)) else none
theorem JW {P:Stmt→Prop} {e:Stmt} {q:List Expr×Expr} (h:Xj e=some q) (k:∀p,P (.Assign q.1 q.2 p)):P e:= dS h fun g=>Stmt.Assign.elim (motive_2:=fun e=>Xj e=some q→P e) e g (fun a b p h=>os (P:=fun q=>(∀p,P (.Assign q.1 q.2 p))→P (.Assign a b p)) (show some (a,b)=some q from h) (fun k=>k p) k) h
noncomputable def JX (e:Stmt):Option (Expr×Operator×Expr):=if h:e.ctorIdx=7 then some (Stmt.AugAssign.elim (motive_2:=fun _=>Expr×Operator×Expr) e h fun a b c _=>(a,b,c)) else none
theorem E1 {P:Stmt→Prop} {e:Stmt} {q:Expr×Operator×Expr} (h:JX e=some q) (k:∀p,P (.AugAssign q.1 q.2.1 q.2.2 p)):P e:= dS h fun g=>Stmt.AugAssign.elim (motive_2:=fun e=>JX e=some q→P e) e g (fun a b c p h=>os (P:=fun q=>(∀p,P (.AugAssign q.1 q.2.1 q.2.2 p))→P (.AugAssign a b c p)) (show some (a,b,c)=some q from h) (fun k=>k p) k) h
noncomputable def CM (e:Stmt):Option (Expr):=if h:e.ctorIdx=24 then some (Stmt.Expr.elim (motive_2:=fun _=>Expr) e h fun a _=>a) else none
theorem sD {P:Stmt→Prop} {e:Stmt} {q:Expr} (h:CM e=some q) (k:∀p,P (.Expr q p)):P e:= dS h fun g=>Stmt.Expr.elim (motive_2:=fun e=>CM e=some q→P e) e g (fun a p h=>os (P:=fun q=>(∀p,P (.Expr q p))→P (.Expr a p)) (show some a=some q from h) (fun k=>k p) k) h
noncomputable def Xk (e:Stmt):Option (Expr×List Stmt×List Stmt):=if h:e.ctorIdx=12 then some (Stmt.If.elim (motive_2:=fun _=>Expr×List Stmt×List Stmt) e h fun a b c _=>(a,b,c)) else none
theorem JY {P:Stmt→Prop} {e:Stmt} {q:Expr×List Stmt×List Stmt} (h:Xk e=some q) (k:∀p,P (.If q.1 q.2.1 q.2.2 p)):P e:= dS h fun g=>Stmt.If.elim (motive_2:=fun e=>Xk e=some q→P e) e g (fun a b c p h=>os (P:=fun q=>(∀p,P (.If q.1 q.2.1 q.2.2 p))→P (.If a b c p)) (show some (a,b,c)=some q from h) (fun k=>k p) k) h
noncomputable def Xl (e:Stmt):Option (Expr×List Stmt×List Stmt):=if h:e.ctorIdx=11 then some (Stmt.While.elim (motive_2:=fun _=>Expr×List Stmt×List Stmt) e h fun a b c _=>(a,b,c)) else none
theorem JZ {P:Stmt→Prop} {e:Stmt} {q:Expr×List Stmt×List Stmt} (h:Xl e=some q) (k:∀p,P (.While q.1 q.2.1 q.2.2 p)):P e:= dS h fun g=>Stmt.While.elim (motive_2:=fun e=>Xl e=some q→P e) e g (fun a b c p h=>os (P:=fun q=>(∀p,P (.While q.1 q.2.1 q.2.2 p))→P (.While a b c p)) (show some (a,b,c)=some q from h) (fun k=>k p) k) h
noncomputable def UP (e:Stmt):Option (Expr×Expr×List Stmt×List Stmt):=if h:e.ctorIdx=9 then some (Stmt.For.elim (motive_2:=fun _=>Expr×Expr×List Stmt×List Stmt) e h fun a b c d _=>(a,b,c,d)) else none
theorem CN {P:Stmt→Prop} {e:Stmt} {q:Expr×Expr×List Stmt×List Stmt} (h:UP e=some q) (k:∀p,P (.For q.1 q.2.1 q.2.2.1 q.2.2.2 p)):P e:= dS h fun g=>Stmt.For.elim (motive_2:=fun e=>UP e=some q→P e) e g (fun a b c d p h=>os (P:=fun q=>(∀p,P (.For q.1 q.2.1 q.2.2.1 q.2.2.2 p))→P (.For a b c d p)) (show some (a,b,c,d)=some q from h) (fun k=>k p) k) h
noncomputable def Xn (e:Stmt):Option (List Stmt×List ExceptHandler×List Stmt×List Stmt):=if h:e.ctorIdx=17 then some (Stmt.Try.elim (motive_2:=fun _=>List Stmt×List ExceptHandler×List Stmt×List Stmt) e h fun a b c d _=>(a,b,c,d)) else none
theorem J0 {P:Stmt→Prop} {e:Stmt} {q:List Stmt×List ExceptHandler×List Stmt×List Stmt} (h:Xn e=some q) (k:∀p,P (.Try q.1 q.2.1 q.2.2.1 q.2.2.2 p)):P e:= dS h fun g=>Stmt.Try.elim (motive_2:=fun e=>Xn e=some q→P e) e g (fun a b c d p h=>os (P:=fun q=>(∀p,P (.Try q.1 q.2.1 q.2.2.1 q.2.2.2 p))→P (.Try a b c d p)) (show some (a,b,c,d)=some q from h) (fun k=>k p) k) h
noncomputable def J1 (e:Stmt):Option (Option Expr):=if h:e.ctorIdx=3 then some (Stmt.Return.elim (motive_2:=fun _=>Option Expr) e h fun a _=>a) else none
theorem E2 {P:Stmt→Prop} {e:Stmt} {q:Option Expr} (h:J1 e=some q) (k:∀p,P (.Return q p)):P e:= dS h fun g=>Stmt.Return.elim (motive_2:=fun e=>J1 e=some q→P e) e g (fun a p h=>os (P:=fun q=>(∀p,P (.Return q p))→P (.Return a p)) (show some a=some q from h) (fun k=>k p) k) h
noncomputable def Sk (e:Stmt):Bool:=Z1 e 26
noncomputable def Ia (e:Stmt):Bool:=Z1 e 27
theorem E3 {P:Stmt→Prop} {e:Stmt} (h:Sk e=true) (k:∀p,P (.Break p)):P e:=Stmt.Break.elim (motive_2:=P) e (Nat.eq_of_beq_eq_true h) k
theorem CQ {P:Stmt→Prop} {e:Stmt} (h:Ia e=true) (k:∀p,P (.Continue p)):P e:=Stmt.Continue.elim (motive_2:=P) e (Nat.eq_of_beq_eq_true h) k
noncomputable def uG (s:Stmt):Option (Expr×Expr):=(Xj s).bind fun q=>(l1 q.1).bind fun t=>some (t,q.2)
theorem gD {P:Stmt→Prop} {e:Stmt} {q:Expr×Expr} (h:uG e=some q) (k:∀p,P (.Assign [q.1] q.2 p)):P e:= ob h fun c h1 h=>ob h fun t h2 h=>JW h1 fun p=>iE (P:=fun l=>P (.Assign l _ p)) h2 (by cases h;exact k p)
noncomputable def Ib (o:Op):Bool:=match o with
 |.add=>true
 |_=>false
noncomputable def iG (e:Expr):Bool:=Sj e 8||Sj e 9||Sj e 10
noncomputable def Xo (e:PE):Option (PE×Tg×PE×Option PE):=if h:e.ctorIdx=20 then some (PE.comp.elim (motive_1:=fun _=>PE×Tg×PE×Option PE) e h fun a t i f=>(a,t,i,f)) else none
theorem J2 {P:PE→Prop} {e:PE} (h:(Xo e).isSome=true) (k:∀a t i f,P (.comp a t i f)):P e:=
 let ⟨_,hq⟩:=Option.isSome_iff_exists.mp h
 dS hq fun g=>PE.comp.elim (motive_1:=P) e g k
mutual
noncomputable def mS (sc:Scope):PS→Stmt→Bool
 |.asg x e,s=>oA (uG s) fun q=>pD sc x q.1&&mE sc e q.2&&(!iG q.2||(Xo e).isSome)
 |.bE x es,s=>oA (uG s) fun q=>pD sc x q.1&&oA (yK q.2) fun xs=>mH sc es xs
 |.l6 xs e,s=>oA (uG s) fun q=>mw sc (.many xs) q.1&&mE sc e q.2&&(wU q.2).isNone&&!iG q.2
 |.aug x op e,s=>oA (JX s) fun q=>pD sc x q.1&&Ib op&&decide (q.2.1=zM op)&&mE sc e q.2.2
 |.app x e,s=>oA (CM s) fun v=>oA (uy v) fun q=>oA (l1 q.2.2) fun a=>eg sc x q.1&&q.2.1==("append":Str)&&mE sc e a&&!dg a
 |.zA x,s=>oA (CM s) fun v=>oA (uy v) fun q=>q.2.2.isEmpty&&eg sc x q.1&&q.2.1==("pop":Str)
 |.lE y x,s=>oA (uG s) fun z=>pD sc y z.1&&oA (uy z.2) fun q=>q.2.2.isEmpty&&eg sc x q.1&&q.2.1==("pop":Str)
 |.ie x i e,s=>oA (uG s) fun q=>mE sc e q.2&&!iG q.2&&oA (ux q.1) fun z=>eg sc x z.1&&mE sc i z.2
 |.io f x args,s=>oA (CM s) fun v=>oA (j7 v) fun q=>q.1==fn f&&Nat.blt f 30&&bz sc (fn f)&&fn f !=("__debug__":Str)&&oA (uC q.2) fun a=>eg sc x a.1&&mH sc args a.2
 |.D8 ys f x lo,s=>oA (uG s) fun q=>mw sc (.many ys) q.1&&oA (ux q.2) fun z=>oA (nL z.2) fun w=>w.2.1.isNone&&w.2.2.isNone&&mO sc (some lo) w.1&&
   oA (j7 z.1) fun c=>c.1==fn f&&Nat.blt f 30&&bz sc (fn f)&&fn f !=("__debug__":Str)&&oA (l1 c.2) fun a=>eg sc x a
 |.fH t a b,s=>oA (Xk s) fun q=>mE sc t q.1&&qq sc a q.2.1&&qq sc b q.2.2
 |.zB t a,s=>oA (Xl s) fun q=>mE sc t q.1&&qq sc a q.2.1&&q.2.2.isEmpty
 |.dW tg it a,s=>oA (UP s) fun q=>mw sc tg q.1&&mE sc it q.2.1&&!dD q.2.1&&qq sc a q.2.2.1&&q.2.2.2.isEmpty
 |.eU i c it a,s=>oA (UP s) fun q=>mw sc (.many [i,c]) q.1&&q.2.2.2.isEmpty&&qq sc a q.2.2.1&&oA (j7 q.2.1) fun z=>z.1==("enumerate":Str)&&bz sc ("enumerate":Str)&&oA (l1 z.2) fun l=>mE sc it l&&!dg l
 |.qP x elt y it,s=>oA (uG s) fun q=>mw sc (.many [x]) q.1&&oA (Xc q.2) fun z=>oA (vG z.2.1) fun g=>g.2.2.isEmpty&&mE sc it g.2.1&&!dD g.2.1&&r9 sc z.2.2 (.one y)&&pD (dY z.2.2 sc) y g.1&&mE (dY z.2.2 sc) elt z.1
 |.ig a,s=>oA (Xn s) fun q=>qq sc a q.1&&(uC q.2.1).isSome&&q.2.2.1.isEmpty&&q.2.2.2.isEmpty
 |.ret e,s=>oA (J1 s) fun q=>mO sc (some e) q
 |.brk,s=>Sk s
 |.cont,s=>Ia s
 |.bad,_=>true
noncomputable def qq (sc:Scope):List PS→List Stmt→Bool
 |[],ss=>ss.isEmpty
 |a::r,ss=>match ss with
  |[]=>false
  |x::xs=>mS sc a x&&qq sc r xs
end
section
variable {P:Stmt→Prop} {s:Stmt} {sc:Scope}
theorem z8 {e:PE} (h:mS sc (.asg x e) s=true) (k:∀tp v p,bnd sc x=true→mE sc e v=true→(!iG v||(Xo e).isSome)=true→P (.Assign [.Name (nm x) tp] v p)):P s:= az h fun q h1 h2=>ba h2 fun h2 h4=>ba h2 fun h2 h3=>gD h1 fun p=>gC (P:=fun t=>P (.Assign [t] _ p)) h2 fun tp _ _ hb=>k tp _ p hb h3 h4
theorem sE {es:List PE} (h:mS sc (.bE x es) s=true) (k:∀tp xs lp p,bnd sc x=true→mH sc es xs=true→P (.Assign [.Name (nm x) tp] (.List xs lp) p)):P s:= az h fun q h1 h2=>ba h2 fun h2 h3=>az h3 fun xs h3 h4=>gD h1 fun p=>gC (P:=fun t=>P (.Assign [t] _ p)) h2 fun tp _ _ hb=>uw (P:=fun v=>P (.Assign _ v p)) h3 fun lp=>k tp xs lp p hb h4
theorem wX {xs:List Nat} {e:PE} (h:mS sc (.l6 xs e) s=true) (k:∀ts i tp v p,mw sc (.many xs) (.Tuple ts i tp)=true→mE sc e v=true→(wU v).isNone=true→iG v=false→P (.Assign [.Tuple ts i tp] v p)):P s:= az h fun q h1 h2=>ba h2 fun h2 h5=>ba h2 fun h2 h4=>ba h2 fun h2 h3=>gD h1 fun p=> i8 (P:=fun t=>mw sc (.many xs) t=true→P (.Assign [t] _ p)) h2 (fun ts i tp _ h2=>k ts i tp _ p h2 h3 h4 (bn h5)) h2
theorem z9 {op:Op} {e:PE} (h:mS sc (.aug x op e) s=true) (k:∀tp v p,bnd sc x=true→nm x≠("__classdict__":Str)→Ib op=true→mE sc e v=true→P (.AugAssign (.Name (nm x) tp) (zM op) v p)):P s:= az h fun q h1 h2=>ba h2 fun h2 h5=>ba h2 fun h2 h4=>ba h2 fun h2 h3=>E1 h1 fun p=>gC (P:=fun t=>P (.AugAssign t _ _ p)) h2 fun tp _ hc hb=>(of_decide_eq_true h4).symm▸k tp _ p hb hc h3 h5
theorem Aa {e:PE} (h:mS sc (.app x e) s=true) (k:∀o a ap p ep,(ap.endLine==p.line)=true→eg sc x o=true→mE sc e a=true→dg a=false→P (.Expr (.Call (.Attribute o ("append":Str) ap) [a] [] p) ep)):P s:= az h fun v h1 h2=>az h2 fun q h2 h3=>az h3 fun a h3 h4=>ba h4 fun h4 h7=>ba h4 fun h4 h6=>ba h4 fun h4 h5=>sD h1 fun ep=>j8 (P:=fun v=>P (.Expr v ep)) h2 fun ap p hl=> iE (P:=fun l=>P (.Expr (.Call _ l _ _) ep)) h3 ((eq_of_beq h5).symm▸k _ a ap p ep hl h4 h6 (bn h7))
theorem wY (h:mS sc (.zA x) s=true) (k:∀o ap p ep,(ap.endLine==p.line)=true→eg sc x o=true→P (.Expr (.Call (.Attribute o ("pop":Str) ap) [] [] p) ep)):P s:= az h fun v h1 h2=>az h2 fun q h2 h3=>ba h3 fun h3 h5=>ba h3 fun h3 h4=>sD h1 fun ep=>j8 (P:=fun v=>P (.Expr v ep)) h2 fun ap p hl=> bq (P:=fun l=>P (.Expr (.Call _ l _ _) ep)) h3 ((eq_of_beq h5).symm▸k _ ap p ep hl h4)
theorem uH (h:mS sc (.lE y x) s=true) (k:∀tp o ap p pp,(ap.endLine==p.line)=true→bnd sc y=true→eg sc x o=true→P (.Assign [.Name (nm y) tp] (.Call (.Attribute o ("pop":Str) ap) [] [] p) pp)):P s:= az h fun z h1 h2=>ba h2 fun h2 h3=>az h3 fun q h3 h4=>ba h4 fun h4 h6=>ba h4 fun h4 h5=>gD h1 fun pp=>gC (P:=fun t=>P (.Assign [t] _ pp)) h2 fun tp _ _ hb=>j8 (P:=fun v=>P (.Assign _ v pp)) h3 fun ap p hl=> bq (P:=fun l=>P (.Assign _ (.Call _ l _ _) pp)) h4 ((eq_of_beq h6).symm▸k tp _ ap p pp hl hb h5)
theorem wZ {i e:PE} (h:mS sc (.ie x i e) s=true) (k:∀o j sp v p,mE sc e v=true→iG v=false→eg sc x o=true→mE sc i j=true→P (.Assign [.Subscript o j sp] v p)):P s:= az h fun q h1 h2=>ba h2 fun h2 h3=>ba h2 fun h2 h4=>az h3 fun z h3 h5=>ba h5 fun h5 h6=>gD h1 fun p=>i7 (P:=fun t=>P (.Assign [t] _ p)) h3 fun sp=>k _ _ sp _ p h2 (bn h4) h5 h6
theorem CR {args:List PE} (h:mS sc (.io f x args) s=true) (k:∀np a xs p ep,f<30→bz sc (fn f)=true→fn f≠("__debug__":Str)→eg sc x a=true→mH sc args xs=true→P (.Expr (.Call (.Name (fn f) np) (a::xs) [] p) ep)):P s:=by exact az h fun v h1 h2=>az h2 fun q h2 h3=>ba h3 fun h3 h7=>ba h3 fun h3 h6=>ba h3 fun h3 h5=>ba h3 fun h3 h4=>az h7 fun a h7 h8=>ba h8 fun h8 h9=>sD h1 fun ep=>ef (P:=fun v=>P (.Expr v ep)) h2 fun np p=> (eq_of_beq h3).symm▸jP (P:=fun l=>P (.Expr (.Call _ l _ _) ep)) h7 (k np _ _ p ep (Nat.le_of_ble_eq_true h4) h5 (lP h6) h8 h9)
theorem Ab {ys:List Nat} (h:mS sc (.D8 ys f x lo) s=true)
  (k:∀ts i tp np a p l p' sp pp,mw sc (.many ys) (.Tuple ts i tp)=true→f<30→bz sc (fn f)=true→fn f≠("__debug__":Str)→eg sc x a=true→mE sc lo l=true→
   P (.Assign [.Tuple ts i tp] (.Subscript (.Call (.Name (fn f) np) [a] [] p) (.Slice (some l) none none p') sp) pp)):P s:=by
 refine az h fun q h1 h2=>ba h2 fun h2 h3=>az h3 fun z h3 h4=>az h4 fun w h4 h5=>ba h5 fun h5 h9=>ba h5 fun h5 h8=>ba h5 fun h5 h7=>az h9 fun c h9 g=>ba g fun g g5=>ba g fun g g4=>ba g fun g g3=>ba g fun g g2=>az g5 fun a g5 g6=>?_;refine gD h1 fun pp=>i8 (P:=fun t=>mw sc (.many ys) t=true→P (.Assign [t] _ pp)) h2 (fun ts i tp _ h2=>?_) h2;refine i7 (P:=fun v=>P (.Assign _ v pp)) h3 fun sp=>kY (P:=fun b=>P (.Assign _ (.Subscript _ b _) pp)) h4 fun p'=>ef (P:=fun b=>P (.Assign _ (.Subscript b _ _) pp)) h9 fun np p=>?_;refine iE (P:=fun l=>P (.Assign _ (.Subscript (.Call _ l _ _) _ _) pp)) g5 ((eq_of_beq g).symm▸?_)
 exact uF (P:=fun o=>P (.Assign _ (.Subscript _ (.Slice o _ _ _) _) pp)) h8 fun l h=>i6 (P:=fun o=>P (.Assign _ (.Subscript _ (.Slice _ o _ _) _) pp)) h5 (i6 (P:=fun o=>P (.Assign _ (.Subscript _ (.Slice _ _ o _) _) pp)) h7
  (k ts i tp np a p l p' sp pp h2 (Nat.le_of_ble_eq_true g2) g3 (lP g4) g6 h))
theorem Ac {t:PE} {a b:List PS} (h:mS sc (.fH t a b) s=true) (k:∀c x y p,mE sc t c=true→qq sc a x=true→qq sc b y=true→P (.If c x y p)):P s:= az h fun q h1 h2=>ba h2 fun h2 h4=>ba h2 fun h2 h3=>JY h1 fun p=>k _ _ _ p h2 h3 h4
theorem Ad {t:PE} {a:List PS} (h:mS sc (.zB t a) s=true) (k:∀c x p,mE sc t c=true→qq sc a x=true→P (.While c x [] p)):P s:= az h fun q h1 h2=>ba h2 fun h2 h4=>ba h2 fun h2 h3=>JZ h1 fun p=>bq (P:=fun l=>P (.While _ _ l p)) h4 (k _ _ p h2 h3)
theorem w5 {a:List PS} (h:mS sc (.dW tg it a) s=true) (k:∀t i x p,mw sc tg t=true→mE sc it i=true→dD i=false→qq sc a x=true→P (.For t i x [] p)):P s:= az h fun q h1 h2=>ba h2 fun h2 h6=>ba h2 fun h2 h5=>ba h2 fun h2 h4=>ba h2 fun h2 h3=>CN h1 fun p=>bq (P:=fun l=>P (.For _ _ _ l p)) h6 (k _ _ _ p h2 h3 (bn h4) h5)
theorem pF {a:List PS} (h:mS sc (.eU i c it a) s=true)
  (k:∀ts j tp np l p x pp,mw sc (.many [i,c]) (.Tuple ts j tp)=true→bz sc ("enumerate":Str)=true→mE sc it l=true→dg l=false→qq sc a x=true→P (.For (.Tuple ts j tp) (.Call (.Name ("enumerate":Str) np) [l] [] p) x [] pp)):P s:=
 az h fun q h1 h2=>ba h2 fun h2 h5=>ba h2 fun h2 h4=>ba h2 fun h2 h3=>az h5 fun z h5 h6=>ba h6 fun h6 h8=>ba h6 fun h6 h7=>az h8 fun l h8 h9=>ba h9 fun h9 g=>CN h1 fun pp=>bq (P:=fun l=>P (.For _ _ _ l pp)) h3
  (i8 (P:=fun t=>mw sc (.many [i,c]) t=true→P (.For t _ _ _ pp)) h2 (fun ts j tp _ h2=>ef (P:=fun b=>P (.For _ b _ _ pp)) h5 fun np p=>iE (P:=fun l=>P (.For _ (.Call _ l _ _) _ _ pp)) h8
   ((eq_of_beq h6).symm▸k ts j tp np l p _ pp h2 h7 h9 (bn g) h4)) h2)
theorem w6 {elt:PE} (h:mS sc (.qP x elt y it) s=true)
  (k:∀ts j tp a t i k p pp,mw sc (.many [x]) (.Tuple ts j tp)=true→mE sc it i=true→dD i=false→r9 sc k (.one y)=true→pD (dY k sc) y t=true→mE (dY k sc) elt a=true→
   P (.Assign [.Tuple ts j tp] (.SetComp a [⟨t,i,[],0⟩] k p) pp)):P s:=
 az h fun q h1 h2=>ba h2 fun h2 h3=>az h3 fun z h3 h4=>az h4 fun g h4 h5=>ba h5 fun h5 g5=>ba h5 fun h5 g4=>ba h5 fun h5 g3=>ba h5 fun h5 g2=>ba h5 fun h5 g1=>gD h1 fun pp=>
  i8 (P:=fun t=>mw sc (.many [x]) t=true→P (.Assign [t] _ pp)) h2 (fun ts j tp _ h2=>JR (P:=fun v=>P (.Assign _ v pp)) h3 fun p=>H8 (P:=fun l=>P (.Assign _ (.SetComp _ l _ _) pp)) h4
   (bq (P:=fun l=>P (.Assign _ (.SetComp _ [⟨_,_,l,_⟩] _ _) pp)) h5 (k ts j tp _ _ _ _ p pp h2 g1 (bn g2) g3 g4 g5))) h2
theorem w7 {a:List PS} (h:mS sc (.ig a) s=true) (k:∀x hd hs p,qq sc a x=true→P (.Try x (hd::hs) [] [] p)):P s:=by
 exact az h fun q h1 h2=>ba h2 fun h2 h5=>ba h2 fun h2 h4=>ba h2 fun h2 h3=>J0 h1 fun p=>bq (P:=fun l=>P (.Try _ _ l _ p)) h4 (bq (P:=fun l=>P (.Try _ _ _ l p)) h5 (by
  obtain ⟨c,hc⟩:=Option.isSome_iff_exists.mp h3
  exact jP (P:=fun l=>P (.Try _ l _ _ p)) hc (k _ _ _ p h2)))
theorem Ae {e:PE} (h:mS sc (.ret e) s=true) (k:∀v p,mE sc e v=true→P (.Return (some v) p)):P s:= az h fun q h1 h2=>E2 h1 fun p=>uF (P:=fun o=>P (.Return o p)) h2 fun v h=>k v p h
theorem J3 {a:PS} {r:List PS} {ss:List Stmt} {P:List Stmt→Prop} (h:qq sc (a::r) ss=true) (k:∀x xs,mS sc a x=true→qq sc r xs=true→P (x::xs)):P ss:=by
 cases ss with
 |nil=>exact nf h
 |cons x xs=>exact ba h fun h1 h2=>k x xs h1 h2
end
noncomputable def E4 (d:FD) (b:List Stmt) (sc:Scope):Bool:=
 sc.kind==.function&&!sc.isGenerator&&!sc.isCoroutine&&dh (sc.names.map (·.1))&&qq sc d.body b&&(d.params++d.star.toList++d.o8).all (bnd sc)&&dh ((d.params++d.star.toList++d.o8).map nm)&&sc.names.all (fun p=>p.2 !=.free)&&
  (d.star.isNone||d.o8.isEmpty)
end
section
noncomputable def Holds (env:Env) (h:Heap) (n:Str) (val:Value):Prop:=
 (env.kindOf n=some .local∧∃mp,h.Ns env.locals mp∧mp n=some val)∨
 ((env.kindOf n=some .cell∨env.kindOf n=some .free)∧∃c,env.cells.lookup n=some c∧h.IsCell c (some val))
noncomputable def fP (X:Cx) (h:Heap) (Mu:List Addr) (oa:Option Addr):Sl→Value→Prop
 |.fz v,val=>RV X h Mu v val
 |.own xs,val=>∃a vs,oa=some a∧val=.ref a∧a∈Mu∧h.PlainList a vs.toArray∧vs.length≤16777216∧aE X h Mu xs vs
noncomputable def sG (X:Cx) (v:Value):Prop:=∃c o vs,v=.ref c∧X.h₀.get? c=some o∧o.data=.fields vs
structure FM (X:Cx) (env:Env) (m:ao) (ow:Nat→Option Addr) (Mu:List Addr) (Ex:List Str) (h:Heap):Prop where
 kind:env.scope.kind=.function
 glob:env.globals=mainGlobals
 DZ:env.builtins=builtinsNs
 hold:Kp X.h₀ h
 ex:∀a∈Mu,∃o,h.get? a=some o
 new:∀a∈Mu,X.h₀.get? a=none
 eO:env.locals∈Mu
 ns:∃mp,h.Ns env.locals mp
 cell:∀n,env.kindOf n=some .cell∨env.kindOf n=some .free→∃c v,env.cells.lookup n=some c∧c∈Mu∧h.IsCell c v
 apart:∀n n' c,env.cells.lookup n=some c→env.cells.lookup n'=some c→n=n'
 var:∀x sl,ah m x=some sl→acc env.scope x=true→nm x∉Ex→∃val,Holds env h (nm x) val∧fP X h Mu (ow x) sl val
 inj:∀x y a,ow x=some a→ow y=some a→x=y
 gU:∀x a,ow x=some a→a∈Mu
 dom:∀x sl,ah m x=some sl→x<88
 code:sG X env.code
theorem w9:∀x,x<88→∀y,y<88→nm x=nm y→x=y:=by decide+kernel
theorem q8 (hx:x<88) (hy:y<88) (h:nm x=nm y):x=y:=w9 x hx y hy h
theorem J4:∀x,x<88→nm x≠(".0":Str):=by decide+kernel
theorem cV (m:ao) (x:Nat) (s:Sl):ah (ak m x s) x=some s:=by
 induction m with
 |nil=>simp [ak,ah,Nat.beq_refl]
 |cons p r ih=>
  obtain ⟨y,t⟩:=p;unfold ak
  by_cases h:Nat.beq y x
  ·simp [h,ah,Nat.beq_refl]
  ·simp [h,ah,ih]
theorem aV (m:ao) (s:Sl) (h:y≠x):ah (ak m x s) y=ah m y:=by
 have hb:Nat.beq x y=false:=by
  cases e:Nat.beq x y
  ·rfl
  ·exact absurd (Nat.eq_of_beq_eq_true e).symm h
 induction m with
 |nil=>simp [ak,ah,hb]
 |cons p r ih=>
  obtain ⟨z,t⟩:=p;unfold ak
  by_cases q:Nat.beq z x
  ·have:z=x:=Nat.eq_of_beq_eq_true q;subst this;simp [q,ah,hb]
  ·simp only [q,Bool.false_eq_true,if_false,ah,ih]
section
variable {X:Cx} {env:Env} {m:ao} {ow:Nat→Option Addr} {Mu:List Addr} {Ex:List Str} {h h':Heap}
theorem Holds.kp (hk:Kp h h') {n:Str} {v:Value} (x:Holds env h n v):Holds env h' n v:=by
 rcases x with ⟨a,mp,hn,e⟩|⟨a,c,hc,hv⟩
 ·exact .inl ⟨a,mp,hn.keeps hk,e⟩
 ·exact .inr ⟨a,c,hc,hv.keeps hk⟩
theorem fP.kp (hk:Kp h h') {oa:Option Addr}:∀{sl:Sl} {v:Value},fP X h Mu oa sl v→fP X h' Mu oa sl v
 |.fz _,_,r=>RV.kp hk r
 |.own _,_,r=>by obtain ⟨a,vs,e,ev,ha,hp,hz,r⟩:=r;exact ⟨a,vs,e,ev,ha,hp.at fun o ho=>hk _ _ ho,hz,r.kp hk⟩
theorem FM.kp (hk:Kp h h') (F:FM X env m ow Mu Ex h):FM X env m ow Mu Ex h' where
 kind:=F.kind
 glob:=F.glob
 DZ:=F.DZ
 hold:=fun b o e=>hk b o (F.hold b o e)
 ex:=fun a ha=>let ⟨o,e⟩:=F.ex a ha;⟨o,hk _ _ e⟩
 new:=F.new
 eO:=F.eO
 ns:=let ⟨mp,e⟩:=F.ns;⟨mp,e.keeps hk⟩
 cell:=fun n q=>let ⟨c,v,a,b,d⟩:=F.cell n q;⟨c,v,a,b,d.keeps hk⟩
 apart:=F.apart
 var:=fun x sl e a q=>let ⟨v,p,r⟩:=F.var x sl e a q;⟨v,p.kp hk,r.kp hk⟩
 inj:=F.inj
 gU:=F.gU
 dom:=F.dom
 code:=F.code
theorem FM.less {Ex':List Str} (F:FM X env m ow Mu Ex h) (hx:∀n∈Ex,n=(".0":Str)):FM X env m ow Mu Ex' h:= {F with var:=fun x sl e a _=>F.var x sl e a fun q=>J4 x (F.dom x sl e) (hx _ q)}
theorem jF {mp:Str→Option Value} (hn:h.Ns a mp) (its:Array Value):¬h.PlainList a its:=by rintro ⟨n,e⟩;obtain ⟨o,es,ep,ho,hd,_⟩:=hn;rw [e] at ho;cases ho;cases hd
theorem gE {v:Option Value} (hn:h.IsCell a v) (its:Array Value):¬h.PlainList a its:=by rintro ⟨n,e⟩;obtain ⟨o,ho,hd⟩:=hn;rw [e] at ho;cases ho;cases hd
theorem nR {mp:Str→Option Value} {v:Option Value} (hn:h.Ns a mp) (hc:h.IsCell a v):False:=by obtain ⟨o,es,ep,ho,hd,_⟩:=hn;obtain ⟨o',ho',hd'⟩:=hc;rw [ho'] at ho;cases ho;rw [hd'] at hd;cases hd
theorem fP.but {b:Addr} (hk:∀c o,c≠b→h.get? c=some o→h'.get? c=some o) (hb:b∈Mu) (hl:∀its,¬h.PlainList b its) {oa:Option Addr}:
  ∀{sl:Sl} {v:Value},fP X h Mu oa sl v→fP X h' Mu oa sl v
 |.fz _,_,r=>RV.keep (fun c o hc e=>hk c o (fun q=>hc (q▸hb)) e) _ _ r
 |.own _,_,r=>by obtain ⟨a,vs,e,ev,ha,hp,hz,r⟩:=r;exact ⟨a,vs,e,ev,ha,hp.at fun o ho=>hk _ _ (fun q=>hl _ (q▸hp)) ho,hz,aE.keep (fun c o hc e=>hk c o (fun q=>hc (q▸hb)) e) _ _ r⟩
theorem nS {k:Option NameKind} (h:ET k=true):k=some .local∨k=some .cell∨k=some .free:=bo h (fun h=>.inl (eq_of_beq h)) fun h=>bo h (fun h=>.inr (.inl (eq_of_beq h))) fun h=>.inr (.inr (eq_of_beq h))
theorem fy {k:Option NameKind} (h:uu k=true):k=some .local∨k=some .cell:=bo h (fun h=>.inl (eq_of_beq h)) fun h=>.inr (eq_of_beq h)
variable {A:Around} {E:Value→Shared→Prop} {s:Shared}
theorem yN (F:FM X env m ow Mu [] s.heap) (hx:ah m x=some sl) (ha:acc env.scope x=true)
  (hc:(nm x==("__classdict__":Str))=false) (p:∀val,fP X s.heap Mu (ow x) sl val→Q val s):wpAny (model X.prog X.w) A (loadName env (nm x)) Q E s:=by
 obtain ⟨val,hh,r⟩:=F.var x sl hx ha (by simp);rcases hh with ⟨hk,mp,hn,hv⟩|⟨hk|hk,c,hl,hv⟩
 ·exact wpAny_loadName_local F.kind hk hn hv (p val r)
 ·exact wpAny_loadName_cell F.kind hk hl hv (p val r)
 ·exact wpAny_loadName_free F.kind hk hl hv (p val r) hc
theorem fQ (F:FM X env m ow Mu [] s.heap) (hm:eg env.scope x e=true) (hx:ah m x=some sl)
  (p:∀val,fP X s.heap Mu (ow x) sl val→Q val s):wpAny (model X.prog X.w) A (eval e env) Q E s:=by
 exact j9 (P:=fun e=>wpAny _ A (eval e env) Q E s) hm fun pos h1 h2 h3=>wpAny_Name (yN F hx h3 (beq_eq_false_iff_ne.mpr h2) p) (beq_eq_false_iff_ne.mpr h1)
theorem kc {v:Option Value} (x:h.IsCell a v) (hk:∀o,h.get? a=some o→h'.get? a=some o):h'.IsCell a v:=let ⟨o,ho,hd⟩:=x;⟨o,hk o ho,hd⟩
theorem FM.stored {val:Value} {b:Addr} (F:FM X env m ow Mu Ex h) (hlt:x<88) (r:fP X h Mu (ow x) sl val) (hM:b∈Mu) (cW:∀c o,c≠b→h.get? c=some o→h'.get? c=some o)
  (hl:∀its,¬h.PlainList b its) (hb:∃o,h'.get? b=some o) (hns:∃mp,h'.Ns env.locals mp) (hcell:∀c v,h.IsCell c v→∃v',h'.IsCell c v') (hx:Holds env h' (nm x) val)
  (hy:∀n w,n≠nm x→Holds env h n w→Holds env h' n w):FM X env (ak m x sl) ow Mu (Ex.filter (· !=nm x)) h' where
 kind:=F.kind
 glob:=F.glob
 DZ:=F.DZ
 hold:=fun c o e=>cW c o (fun q=>by rw [q,F.new b hM] at e;cases e) (F.hold c o e)
 ex:=fun a ha=>if q:a=b then q▸hb else let ⟨o,ho⟩:=F.ex a ha;⟨o,cW a o q ho⟩
 new:=F.new
 eO:=F.eO
 ns:=hns
 cell:=fun n q=>let ⟨c,w,h1,h2,h3⟩:=F.cell n q;let ⟨v',h4⟩:=hcell c w h3;⟨c,v',h1,h2,h4⟩
 apart:=F.apart
 var:=fun y UQ e ha hne=>by
  by_cases q:y=x
  ·subst q;rw [cV] at e;cases e;exact ⟨val,hx,r.but cW hM hl⟩
  ·rw [aV m _ q] at e;have hxy:nm y≠nm x:=fun z=>q (q8 (F.dom y UQ e) hlt z);obtain ⟨w,hh,sr⟩:=F.var y UQ e ha fun z=>hne (List.mem_filter.mpr ⟨z,bne_iff_ne.mpr hxy⟩);exact ⟨w,hy _ w hxy hh,sr.but cW hM hl⟩
 inj:=F.inj
 gU:=F.gU
 dom:=fun y UQ e=>by
  by_cases q:y=x
  ·rw [q];exact hlt
  ·rw [aV m _ q] at e;exact F.dom y UQ e
 code:=F.code
theorem uI {val:Value} {Q:Unit→Shared→Prop} (F:FM X env m ow Mu Ex s.heap) (hb:bnd env.scope x=true) (r:fP X s.heap Mu (ow x) sl val)
  (p:∀h' tk b,(b=env.locals∨∃n,env.kindOf n=some .cell∧n=nm x∧env.cells.lookup n=some b)→(∀c o,c≠b→s.heap.get? c=some o→h'.get? c=some o)→
   FM X env (ak m x sl) ow Mu (Ex.filter (· !=nm x)) h'→Q () {s with heap:=h',toks:=tk}):
  wpAny (model X.prog X.w) A (storeName env (nm x) val) Q E s:=by
 refine ba hb fun hk hlt=>?_;have hlt:x<88:=Nat.le_of_ble_eq_true hlt;obtain ⟨mp,hn⟩:=F.ns;rcases fy hk with hk|hk
 ·refine wpAny_storeName_local hk hn (fun h' hn' hs=>?_) (by rw [F.kind];rfl);have cW:∀c o,c≠env.locals→s.heap.get? c=some o→h'.get? c=some o:=fun c o hc e=>(hs.2 c hc).trans e;have hc:∀{c v},s.heap.IsCell c v→h'.IsCell c v:=fun {c v} g=>kc g fun o e=>cW c o (fun q=>nR hn (q▸g)) e;exact p h' _ env.locals (.inl rfl) cW (F.stored hlt r F.eO cW (jF hn) (let ⟨o,_,_,ho,_⟩:=hn';⟨o,ho⟩) ⟨_,hn'⟩ (fun c v g=>⟨v,hc g⟩) (.inl ⟨hk,_,hn',if_pos rfl⟩) fun n w hne hh=> hh.elim (fun ⟨k1,Z2,n2,e2⟩=>.inl ⟨k1,_,hn',(if_neg hne).trans ((Heap.Ns.agree hn n2 n).trans e2)⟩) fun ⟨k1,c,l1,c1⟩=>.inr ⟨k1,c,l1,hc c1⟩)
 ·obtain ⟨c,w,h1,h2,h3⟩:=F.cell (nm x) (.inl hk);refine wpAny_storeName_cell F.kind hk h1 h3 fun h' hc' hs=>?_;have cW:∀b o,b≠c→s.heap.get? b=some o→h'.get? b=some o:=fun b o hb e=>(hs.2 b hb).trans e;have hns:∀{mp},s.heap.Ns env.locals mp→h'.Ns env.locals mp:=fun hn=>hn.at fun o ho=>cW _ o (fun q=>nR hn (q▸h3)) ho
  exact p h' s.toks c (.inr ⟨_,hk,rfl,h1⟩) cW (F.stored hlt r h2 cW (gE h3) (let ⟨o,ho,_⟩:=hc';⟨o,ho⟩) ⟨mp,hns hn⟩
   (fun d v g=>if z:d=c then ⟨_,z▸hc'⟩ else ⟨v,kc g fun o e=>cW d o z e⟩) (.inr ⟨.inl hk,c,h1,hc'⟩) fun n w hne hh=>
   hh.elim (fun ⟨k1,Z2,n2,e2⟩=>.inl ⟨k1,Z2,hns n2,e2⟩) fun ⟨k1,d,l1,c1⟩=>.inr ⟨k1,d,l1,kc c1 fun o e=>cW d o (fun z=>hne (F.apart _ _ _ l1 (z▸h1))) e⟩)
theorem kg {val:Value} {Q:Unit→Shared→Prop} (F:FM X env m ow Mu Ex s.heap) (hb:bnd env.scope x=true) (_hx:∀xs,ah m x≠some (.own xs)) (r:RV X s.heap Mu v val)
  (p:∀h' tk b,(b=env.locals∨∃n,env.kindOf n=some .cell∧n=nm x∧env.cells.lookup n=some b)→(∀c o,c≠b→s.heap.get? c=some o→h'.get? c=some o)→
   FM X env (ak m x (.fz v)) ow Mu (Ex.filter (· !=nm x)) h'→Q () {s with heap:=h',toks:=tk}):
  wpAny (model X.prog X.w) A (storeName env (nm x) val) Q E s:=uI (sl:=.fz v) F hb r p
end
end
section
noncomputable abbrev J5 (n:Nat) (A:Around):Prop:=A.handled=none∧A.units+20*n+20≤8000∧A.depth+n≤800
noncomputable abbrev AB (n:Nat) (A:Around):Prop:=A.handled=none∧A.units+20*n+37≤8000∧A.depth+n≤800
theorem big (h:vs.length≤16777216):(vs.toArray.size:Int)<2^63:=Int.lt_of_le_of_lt (Int.ofNat_le.mpr (List.size_toArray .. ▸h)) (by decide)
theorem AB.u1 {n:Nat} (a:AB n A):A.units+1<9000:=by have:=a.2.1;exact MZ this
theorem AB.u9 {n:Nat} (a:AB n A):A.units<9000:=Nat.lt_of_succ_lt a.u1
theorem AB.d9 {n:Nat} (a:AB n A):A.depth<900:=Nat.lt_of_le_of_lt (Nat.le_trans (Nat.le_add_right _ _) a.2.2) (by decide)
theorem behind {op:CmpOp} {b:Expr} (h:dD b=false):behindInMarks op b=false:=by cases b <;>first|rfl|exact tf h
theorem xd {b:Expr} (h:dD b=false) (x:Value):foldedSetIterable b env x=pure x:=by cases b <;>first|rfl|exact tf h
theorem Ic {es:List Expr} (h:dg e=false):starEach (e::es) env=(false,eval e env)::starEach es env:=by cases e <;>first|rfl|exact tf h
theorem qs {sc:Scope} (h:eg sc x e=true):dg e=false:=j9 (P:=fun e=>dg e=false) h fun _ _ _ _=>rfl
theorem xe {sc:Scope} {x:Str} (h:qj sc x e=true):dg e=false:=uA (P:=fun e=>dg e=false) h fun _ _ _=>rfl
theorem AB.ok {n:Nat} (a:AB n A):J5 n A:=⟨a.1,Nat.le_trans (Nat.add_le_add_left (by decide:20≤37) _) a.2.1,a.2.2⟩
noncomputable def KR (X:Cx) (h:Heap) (Mu:List Addr):List (Nat×V)→List (Str×Value)→Prop
 |[],ks=>ks=[]
 |(x,v)::r,ks=>∃val t,ks=(nm x,val)::t∧RV X h Mu v val∧KR X h Mu r t
structure Gn (X:Cx):Prop extends Gd X where
 gv:∀g v,LV g=some v→∃val,(X.mg (gn g)=some val∨(X.mg (gn g)=none∧X.mb (gn g)=some val))∧RV X X.h₀ [] v val
 bi:∀b,X.mg (nN b)=none∧X.mb (nN b)=some (nJ b)
 ty:∀n∈["tuple","map","enumerate"],X.mg (Str.ofString n)=none∧X.mb (Str.ofString n)=some (.type n)
 Sn:∀f,f<30→∃a o fd,X.mg (fn f)=some (.ref a)∧X.h₀.get? a=some o∧o.data=.func fd
noncomputable def fV (X:Cx) (C:Calls) (n:Nat):Prop:=
 ∀f vs ks v,C.f f vs ks=some v→∀a,X.mg (fn f)=some (.ref a)→∀(A:Around) (E:Value→Shared→Prop) (Q:Value→Shared→Prop) (s:Shared) (Mu:List Addr) (jC:List Value) (Af:List (Str×Value)),
  J5 n A→Kp X.h₀ s.heap→(∀a∈Mu,∃o,s.heap.get? a=some o)→(∀a∈Mu,X.h₀.get? a=none)→aE X s.heap Mu vs jC→KR X s.heap Mu ks Af→Post X Mu s v Q→
  wpAny (model X.prog X.w) A (call (.ref a) jC Af) Q E s
section
variable (X:Cx) (C:Calls) (n:Nat)
noncomputable def bL (pe:PE):Prop:=∀(env:Env) (m:ao) (ow:Nat→Option Addr) (Mu:List Addr) (s:Shared) (A:Around) (E:Value→Shared→Prop) (Q:Value→Shared→Prop) (v:V) (e:Expr),
 FM X env m ow Mu [] s.heap→AB n A→mE env.scope pe e=true→ev C m pe=some v→Post X Mu s v Q→wpAny (model X.prog X.w) A (eval e env) Q E s
noncomputable def ji (pe:PE):Prop:=∀(env:Env) (m:ao) (ow:Nat→Option Addr) (Mu:List Addr) (s:Shared) (A:Around) (E:Value→Shared→Prop) (Q:Bool→Shared→Prop) (b:Bool) (e:Expr),
 FM X env m ow Mu [] s.heap→AB n A→mE env.scope pe e=true→tr C m pe=some b→(∀h' tk,Kp s.heap h'→Q b {s with heap:=h',toks:=tk})→wpAny (model X.prog X.w) A (isTrue e env (eval e env)) Q E s
noncomputable def xg (E5:List PE):Prop:=∀(env:Env) (m:ao) (ow:Nat→Option Addr) (Mu:List Addr) (s:Shared) (A:Around) (E:Value→Shared→Prop) (Q:List Value→Shared→Prop) (vs:List V) (es:List Expr) (pos:Pos),
 FM X env m ow Mu [] s.heap→AB n A→mH env.scope E5 es=true→jh C m E5=some vs→(∀vals h' tk,Kp s.heap h'→aE X h' Mu vs vals→Q vals {s with heap:=h',toks:=tk})→
 wpAny (model X.prog X.w) A (spliced (backTo pos (starEach es env))) Q E s
noncomputable def Mc (po:Option PE):Prop:=∀(env:Env) (m:ao) (ow:Nat→Option Addr) (Mu:List Addr) (s:Shared) (A:Around) (E:Value→Shared→Prop) (Q:Value→Shared→Prop) (ov:Option V) (eo:Option Expr),
 FM X env m ow Mu [] s.heap→AB n A→mO env.scope po eo=true→zD C m po=some ov→(∀val h' tk,Kp s.heap h'→cT X h' Mu ov val→Q val {s with heap:=h',toks:=tk})→
 wpAny (model X.prog X.w) A (evalPart eo env) Q E s
noncomputable def So (pk:List (Nat×PE)):Prop:=∀(env:Env) (m:ao) (ow:Nat→Option Addr) (Mu:List Addr) (s:Shared) (A:Around) (E:Value→Shared→Prop) (Q:List Value→Shared→Prop) (ks:List (Nat×V)) (kws:List Keyword) (pos:Pos),
 FM X env m ow Mu [] s.heap→AB n A→mK env.scope pk kws=true→V1 C m pk=some ks→
 (∀vals h' tk,Kp s.heap h'→KR X h' Mu ks (((backToKw pos (keywordEach kws env)).filterMap (·.1)).zip vals)→Q vals {s with heap:=h',toks:=tk})→
 wpAny (model X.prog X.w) A (evalAll ((backToKw pos (keywordEach kws env)).map (·.2))) Q E s
end
section
variable {X:Cx} {C:Calls} {n:Nat} {s:Shared} {Mu:List Addr} {h₁:Heap}
theorem Post.next (p:Post X Mu s v Q) (hk:Kp s.heap h₁) (tk:Nat):Post X Mu {s with heap:=h₁,toks:=tk} v Q:= fun val h' tk' hk' r=>p val h' tk' (fun b o e=>hk' b o (hk b o e)) r
theorem Kp.trans {h₂:Heap} (a:Kp h h₁) (b:Kp h₁ h₂):Kp h h₂:=fun c o e=>b c o (a c o e)
theorem CS (HS:rQ X) {op:Op} {l:PE} (hl:bL X C n l) (hr:bL X C n r):bL X C n (.bin op l r):=by intro env m ow Mu s A E Q v e F ok hm he p;refine ql (P:=fun e=>wpAny _ A (eval e env) Q E s) hm fun a b pos ma mb=>ob he fun va ea he=>ob he fun vb eb he=>?_;refine wpAny_BinOp (hl env m ow Mu s A E _ va a F ok ma ea fun x h₁ tk₁ k₁ r₁=>?_);refine hr env m ow Mu _ A E _ vb b (F.kp k₁) ok mb eb fun y h₂ tk₂ k₂ r₂=>?_;exact Jx HS ok.1 ok.u9 ((F.kp k₁).kp k₂).ex he (r₁.kp k₂) r₂ (p.next (k₁.trans k₂) tk₂)
theorem J6 {x:PE} (hx:bL X C n x):bL X C n (.neg x):=by intro env m ow Mu s A E Q v e F ok hm he p;refine zZ (P:=fun e=>wpAny _ A (eval e env) Q E s) hm fun a pos ma=>ob he fun va ea he=>ob he fun i hi he=>cK (P:=fun va=>ev C m x=some va→_) hi (fun ea=>?_) ea;exact wpAny_UnaryOp (hx env m ow Mu s A E _ (.int i) a F ok ma ea fun y h₁ tk₁ k₁ r₁=>r₁.eY fun t=>P.neg_int (os (P:=fun v=>Post X Mu s v Q→_) he (fun p=>p _ _ _ k₁ ⟨_,rfl⟩) p))
theorem J7 {t a b:PE} (ht:ji X C n t) (ha:bL X C n a) (hb:bL X C n b):bL X C n (.ite t a b):=by
 intro env m ow Mu s A E Q v e F ok hm he p;refine qn (P:=fun e=>wpAny _ A (eval e env) Q E s) hm fun x y z pos mt ma mb=>ob he fun c ec he=>?_;refine wpAny_IfExp (ht env m ow Mu s A E _ c _ F ok mt ec fun h₁ tk₁ k₁=>?_);cases c
 ·exact hb env m ow Mu _ A E Q v _ (F.kp k₁) ok mb he (p.next k₁ tk₁)
 ·exact ha env m ow Mu _ A E Q v _ (F.kp k₁) ok ma he (p.next k₁ tk₁)
theorem J8 (G:Gn X) {op:Cp} {l:PE} (hl:bL X C n l) (hr:bL X C n r):bL X C n (.cmp op l r):=by intro env m ow Mu s A E Q v e F ok hm he p;refine qo (P:=fun e=>wpAny _ A (eval e env) Q E s) hm fun a b pos ma mb hs=>ob he fun va ea he=>ob he fun vb eb he=>om (P:=fun v=>Post X Mu s v Q→_) he (fun c ec p=>?_) p;refine wpAny_Compare1 (hl env m ow Mu s A E _ va _ F ok ma ea fun x h₁ tk₁ k₁ r₁=>?_) (behind hs);refine hr env m ow Mu _ A E _ vb _ (F.kp k₁) ok mb eb fun y h₂ tk₂ k₂ r₂=>?_;exact Cm G.toGd ((F.kp k₁).kp k₂).hold ok.u9 ec (r₁.kp k₂) r₂ fun tk=>p _ _ tk (k₁.trans k₂) rfl
end
end
section
section
variable {X:Cx} {C:Calls} {n:Nat} {s:Shared} {Mu:List Addr} {h₁:Heap}
theorem Sp {c:V}:bL X C n (.cn c):=by
 intro env m ow Mu s A E Q v e F ok hm he p;refine CL (P:=fun e=>wpAny _ A (eval e env) Q E s) hm fun k i pos hc=>os (P:=fun v=>Post X Mu s v Q→_) he (fun p=>?_) p;exact JV (P:=fun c k=>Post X Mu s c Q→wpAny _ A (eval (.Constant k i pos) env) Q E s) hc (fun p=>wpAny_pure (p.here rfl)) (fun b p=>wpAny_pure (p.here rfl)) (fun b p=>wpAny_mkInt (p.same _ ⟨_,rfl⟩))
  (fun l h2 p=>Calls.Constant_str (p.same _ ⟨_,rfl,bH h2⟩)) p
theorem yO (h:jQ m x=some v):ah m x=some (.fz v):=by
 unfold jQ at h;split at h
 ·rename_i hx;cases h;exact hx
 ·cases h
theorem CT:bL X C n (.var x):=fun _ _ _ _ _ _ _ _ _ _ F _ hm he p=>fQ F hm (yO he) fun _ r=>p.here r
theorem sH {sc:Scope} {k:Str} {E:Value→Shared→Prop} (G:Gn X) (F:FM X env m ow Mu [] s.heap) (hs:sc=env.scope)
  (hm:qj sc k e=true) {val:Value} (hv:X.mg k=some val∨(X.mg k=none∧X.mb k=some val)) (p:Q val s):wpAny (model X.prog X.w) A (eval e env) Q E s:=by
 subst hs;refine uA (P:=fun e=>wpAny _ A (eval e env) Q E s) hm fun pos h1 h2=>?_;have hg:s.heap.Ns env.globals X.mg:=by rw [F.glob];exact G.g.keeps F.hold
 have hb:s.heap.Ns env.builtins X.mb:=by rw [F.DZ];exact G.b.keeps F.hold
 refine Name_function_global F.kind (eq_of_beq h1) ?_ (beq_eq_false_iff_ne.mpr h2);exact hv.elim (fun hv=>loadGlobal_global hg hv p) fun hv=>loadGlobal_builtin hg hv.1 hb hv.2 p
theorem ez {sc:Scope} {k:Str} {E:Value→Shared→Prop} (G:Gn X) (F:FM X env m ow Mu [] s.heap) (hs:sc=env.scope)
  (h1:bz sc k=true) (h2:k≠("__debug__":Str)) {val:Value} (hv:X.mg k=some val∨(X.mg k=none∧X.mb k=some val)) (p:Q val s):wpAny (model X.prog X.w) A (eval (.Name k pos) env) Q E s:=
 sH G F hs (show (k==k&&bz sc k&&k !=("__debug__":Str))=true by rw [beq_self_eq_true,h1,bne_iff_ne.mpr h2];rfl) hv p
theorem J9 {g:Nat} {val:Value} (he:LV g=some v) (r:RV X h [] v val):RV X h' Mu v val:=by unfold LV at he;split at he <;>cases he <;>exact r
theorem Sq (G:Gn X) {g:Nat}:bL X C n (.gl g):=by intro env m ow Mu s A E Q v e F ok hm he p;obtain ⟨val,hv,r⟩:=G.gv g v he;exact ba hm fun _ hm=>sH G F rfl hm hv (p.here (J9 he r))
theorem bool_and {E:Value→Shared→Prop} {x y:Sem Value}
  (h:wpAny (model X.prog X.w) A x (fun v s₁=>wpAny (model X.prog X.w) A (truthy v) (fun t s₂=>if t then wpAny (model X.prog X.w) A (boolOp pos .And (y::rest)) Q E s₂ else Q v s₂) E s₁) E s):
  wpAny (model X.prog X.w) A (boolOp pos .And (x::y::rest)) Q E s:=by
 show wpAny _ _ (x>>=fun v=>_) Q E s;refine wpAny_bind (wpAny_mono h (fun v s₁ h₁=>wpAny_bind (wpAny_standAt (wpAny_bind (wpAny_holding (wpAny_mono h₁ (fun t s₂ h₂=>?_) fun _ _ e=>e))))) fun _ _ e=>e);cases t
 ·exact wpAny_pure h₂
 ·exact h₂
theorem E6 {E:Value→Shared→Prop} {x y:Sem Value}
  (h:wpAny (model X.prog X.w) A x (fun v s₁=>wpAny (model X.prog X.w) A (truthy v) (fun t s₂=>if t then Q v s₂ else wpAny (model X.prog X.w) A (boolOp pos .Or (y::rest)) Q E s₂) E s₁) E s):
  wpAny (model X.prog X.w) A (boolOp pos .Or (x::y::rest)) Q E s:=by
 show wpAny _ _ (x>>=fun v=>_) Q E s;refine wpAny_bind (wpAny_mono h (fun v s₁ h₁=>wpAny_bind (wpAny_standAt (wpAny_bind (wpAny_holding (wpAny_mono h₁ (fun t s₂ h₂=>?_) fun _ _ e=>e))))) fun _ _ e=>e);cases t
 ·exact h₂
 ·exact wpAny_pure h₂
theorem Ka {l:PE} (hl:bL X C n l) (hr:bL X C n r):bL X C n (.and l r):=by
 intro env m ow Mu s A E Q v e F ok hm he p;refine qm (P:=fun e=>wpAny _ A (eval e env) Q E s) hm fun a b rest pos ma mb=>ob he fun va ea he=>ob he fun t et he=>?_;have key:∃y ys,(eval (.BoolOp .And (a::b::rest) pos) env=boolOp pos .And (eval a env::y::ys))∧∀(s':Shared) Q,wpAny (model X.prog X.w) A (eval (dR .And b rest pos) env) Q E s'→wpAny (model X.prog X.w) A (boolOp pos .And (y::ys)) Q E s':=by
  cases rest with
  |nil=>exact ⟨_,_,rfl,fun _ _ h=>h⟩
  |cons c r=>exact ⟨_,_,rfl,fun _ _ h=>h⟩
 obtain ⟨y,ys,e1,hrest⟩:=key;rw [e1];refine bool_and (hl env m ow Mu s A E _ va a F ok ma ea fun x h₁ tk₁ k₁ r₁=>wF et r₁ fun tk=>?_);cases t
 ·exact os (P:=fun v=>Post X Mu s v Q→_) he (fun p=>p _ _ tk k₁ r₁) p
 ·exact hrest _ _ (hr env m ow Mu _ A E Q v _ (F.kp k₁) ok mb he (p.next k₁ tk))
theorem Ss {l:PE} (hl:bL X C n l) (hr:bL X C n r):bL X C n (.or l r):=by
 intro env m ow Mu s A E Q v e F ok hm he p;refine uD (P:=fun e=>wpAny _ A (eval e env) Q E s) hm fun a b rest pos ma mb=>ob he fun va ea he=>ob he fun t et he=>?_;have key:∃y ys,(eval (.BoolOp .Or (a::b::rest) pos) env=boolOp pos .Or (eval a env::y::ys))∧∀(s':Shared) Q,wpAny (model X.prog X.w) A (eval (dR .Or b rest pos) env) Q E s'→wpAny (model X.prog X.w) A (boolOp pos .Or (y::ys)) Q E s':=by
  cases rest with
  |nil=>exact ⟨_,_,rfl,fun _ _ h=>h⟩
  |cons c r=>exact ⟨_,_,rfl,fun _ _ h=>h⟩
 obtain ⟨y,ys,e1,hrest⟩:=key;rw [e1];refine E6 (hl env m ow Mu s A E _ va a F ok ma ea fun x h₁ tk₁ k₁ r₁=>wF et r₁ fun tk=>?_);cases t
 ·exact hrest _ _ (hr env m ow Mu _ A E Q v _ (F.kp k₁) ok mb he (p.next k₁ tk))
 ·exact os (P:=fun v=>Post X Mu s v Q→_) he (fun p=>p _ _ tk k₁ r₁) p
theorem Kc {es:List PE} (hes:xg X C n es):bL X C n (.lst es):=by
 intro env m ow Mu s A E Q v e F ok hm he p;refine z5 (P:=fun e=>wpAny _ A (eval e env) Q E s) hm fun xs pos mx=>ob he fun vs ee he=>oi he fun hz he=>?_;refine wpAny_List (hes env m ow Mu s A E _ vs _ _ F ok mx ee fun vals h₁ tk₁ k₁ r₁=>?_);have hz:vals.length≤16777216:=by rw [r₁.length];exact bH hz
 exact ⟨by rw [av];exact hz,os (P:=fun v=>Post X Mu s v Q→_) he (fun p=>p _ _ tk₁ (k₁.trans aA) (gw (F.kp k₁).ex r₁ hz)) p⟩
theorem Kd {es:List PE} (hes:xg X C n es):bL X C n (.tup es):=by
 intro env m ow Mu s A E Q v e F ok hm he p;refine z6 (P:=fun e=>wpAny _ A (eval e env) Q E s) hm fun xs i pos mx=>ob he fun vs ee he=>oi he fun hz he=>?_;refine wpAny_Tuple (hes env m ow Mu s A E _ vs _ _ F ok mx ee fun vals h₁ tk₁ k₁ r₁=>?_);have hz:vals.length≤16777216:=by rw [r₁.length];exact bH hz
 exact ⟨by rw [av];exact hz,os (P:=fun v=>Post X Mu s v Q→_) he (fun p=>p _ _ tk₁ (k₁.trans aA) (kU (F.kp k₁).ex r₁ hz)) p⟩
theorem Ke:xg X C n []:=by intro env m ow Mu s A E Q vs es pos F ok hm he p;exact bq (P:=fun es=>wpAny _ A (spliced (backTo pos (starEach es env))) Q E s) hm (spliced_nil (p [] s.heap s.toks (fun _ _ e=>e) (os (P:=fun vs=>aE X _ Mu vs []) he rfl)))
theorem eH {es:List Expr} (h:dg e=false):backTo pos (starEach (e::es) env)=(false,eval e env)::backTo pos (starEach es env):=by rw [Ic h];rfl
theorem yP {a:PE} {r:List PE} (ha:bL X C n a) (hr:xg X C n r):xg X C n (a::r):=by intro env m ow Mu s A E Q vs es pos F ok hm he p;refine sA (P:=fun es=>wpAny _ A (spliced (backTo pos (starEach es env))) Q E s) hm fun e es m1 m2 m3=>ob he fun v Ag he=>?_;rw [eH m2];refine spliced_cons (ha env m ow Mu s A E _ v e F ok m1 Ag fun x h₁ tk₁ k₁ r₁=>om (P:=fun vs=>(∀vals h' tk,Kp s.heap h'→aE X h' Mu vs vals→Q vals {s with heap:=h',toks:=tk})→_) he (fun vs' Xp p=>?_) p);exact hr env m ow Mu _ A E _ vs' es pos (F.kp k₁) ok m3 Xp fun xs h₂ tk₂ k₂ r₂=>p _ _ tk₂ (k₁.trans k₂) (aE.cons (r₁.kp k₂) r₂)
theorem E7:Mc X C n none:=by intro env m ow Mu s A E Q ov eo F ok hm he p;refine i6 (P:=fun eo=>wpAny _ A (evalPart eo env) Q E s) hm ?_;rw [evalPart_none];exact wpAny_pure (p .none s.heap s.toks (fun _ _ e=>e) (os (P:=fun ov=>cT X _ Mu ov _) he rfl))
theorem E8 {a:PE} (ha:bL X C n a):Mc X C n (some a):=by intro env m ow Mu s A E Q ov eo F ok hm he p;refine uF (P:=fun eo=>wpAny _ A (evalPart eo env) Q E s) hm fun e hm=>om (P:=fun ov=>(∀val h' tk,Kp s.heap h'→cT X h' Mu ov val→Q val {s with heap:=h',toks:=tk})→_) he (fun v Ag p=>?_) p;rw [evalPart_some];exact ha env m ow Mu s A E Q v e F ok hm Ag fun x h₁ tk₁ k₁ r₁=>p _ _ _ k₁ r₁
theorem Kf:So X C n []:=by
 intro env m ow Mu s A E Q ks kws pos F ok hm he p;cases kws with
 |nil=>exact wpAny_pure (p [] s.heap s.toks (fun _ _ e=>e) (os (P:=fun ks=>KR X _ Mu ks _) he rfl))
 |cons k kws=>exact nf hm
theorem evalAll_cons {E:Value→Shared→Prop} {Q:List Value→Shared→Prop} {x:Sem Value}
  (h:wpAny (model X.prog X.w) A x (fun v s₁=>wpAny (model X.prog X.w) A (evalAll rest) (fun vs s₂=>Q (v::vs) s₂) E s₁) E s):wpAny (model X.prog X.w) A (evalAll (x::rest)) Q E s:=by
 rw [evalAll];refine wpAny_bind (wpAny_mono h (fun v s₁ h₁=>?_) fun _ _ e=>e)
 first
  |exact wpAny_bind (wpAny_holding (wpAny_mono h₁ (fun vs s₂ h₂=>wpAny_pure h₂) fun _ _ e=>e))
  |exact wpAny_bind (wpAny_mono h₁ (fun vs s₂ h₂=>wpAny_pure h₂) fun _ _ e=>e)
theorem E9 {a:PE} {r:List (Nat×PE)} (ha:bL X C n a) (hr:So X C n r):So X C n ((x,a)::r):=by intro env m ow Mu s A E Q ks kws pos F ok hm he p;refine H9 (P:=fun kws=>(∀vals h' tk,Kp s.heap h'→KR X h' Mu ks (((backToKw pos (keywordEach kws env)).filterMap (·.1)).zip vals)→Q vals {s with heap:=h',toks:=tk})→wpAny _ A (evalAll ((backToKw pos (keywordEach kws env)).map (·.2))) Q E s) hm (fun e kp kws m2 m3 p=>ob he fun v Ag he=>?_) p;show wpAny _ _ (evalAll ((do let v←eval e env;standAt pos;pure v)::(backToKw pos (keywordEach kws env)).map (·.2))) _ _ _;refine evalAll_cons (wpAny_bind (ha env m ow Mu s A E _ v e F ok m2 Ag fun y h₁ tk₁ k₁ r₁=>wpAny_bind (wpAny_standAt (wpAny_pure ?_))));obtain ⟨vs',Xp,rfl⟩:=Option.map_eq_some_iff.mp he;exact hr env m ow Mu _ A E _ vs' kws pos (F.kp k₁) ok m3 Xp fun xs h₂ tk₂ k₂ r₂=>p _ _ tk₂ (k₁.trans k₂) ⟨y,_,rfl,r₁.kp k₂,r₂⟩
end
end
section
theorem mz:PlainAttrs "frozenset" where
 ga:=⟨"object.__getattribute__",by rw [typeLookup_type,builtinLookup_eq_fast];kernel_rfl,by decide+kernel⟩
 noGetattr:=by rw [typeLookup_type,builtinLookup_eq_fast];kernel_rfl
theorem xh (k:MT):PlainAttrs (nF k):=by cases k <;>first|exact F.plainAttrs_str|exact mz
section
variable {X:Cx} {C:Calls} {n:Nat} {s:Shared} {Mu:List Addr} {h₁:Heap}
theorem CU {o i:PE} (ho:bL X C n o) (hi:bL X C n i):bL X C n (.idx o i):=by intro env m ow Mu s A E Q v e F ok hm he p;refine qp (P:=fun e=>wpAny _ A (eval e env) Q E s) hm fun a b pos mo mi=>ob he fun va ea he=>ob he fun vb eb he=>?_;refine Subscript_ (ho env m ow Mu s A E _ va _ F ok mo ea fun x h₁ tk₁ k₁ r₁=>?_);exact hi env m ow Mu _ A E _ vb _ (F.kp k₁) ok mi eb fun y h₂ tk₂ k₂ r₂=>aZ he (r₁.kp k₂) r₂ (p.next (k₁.trans k₂) tk₂)
theorem cT.kp {w:Option V} {x:Value} (hk:Kp h h') (r:cT X h Mu w x):cT X h' Mu w x:=by
 cases w with
 |none=>exact r
 |some w=>exact RV.kp hk r
theorem Kg {o:PE} {lo hi st:Option PE} (ho:bL X C n o) (hlo:Mc X C n lo) (hhi:Mc X C n hi) (hst:Mc X C n st):bL X C n (.slc o lo hi st):=by intro env m ow Mu s A E Q v e F ok hm he p;refine z7 (P:=fun e=>wpAny _ A (eval e env) Q E s) hm fun a l u s' p1 p2 mo m1 m2 m3=>ob he fun va ea he=>ob he fun vl el he=>ob he fun vu eu he=>ob he fun vt et he=>?_;refine Subscript_ (ho env m ow Mu s A E _ va _ F ok mo ea fun x h₁ tk₁ k₁ r₁=>?_);have F₁:=F.kp k₁;refine wpAny_Slice (hlo env m ow Mu _ A E _ vl _ F₁ ok m1 el fun y h₂ tk₂ k₂ r₂=>?_);have F₂:=F₁.kp k₂;refine hhi env m ow Mu _ A E _ vu _ F₂ ok m2 eu fun z h₃ tk₃ k₃ r₃=>?_;refine hst env m ow Mu _ A E _ vt _ (F₂.kp k₃) ok m3 et fun w h₄ tk₄ k₄ r₄=>?_;exact mY (s:={s with heap:=h₄,toks:=tk₄}) ((F₂.kp k₃).kp k₄).ex he (r₁.kp ((k₂.trans k₃).trans k₄)) (cT.kp (k₃.trans k₄) r₂) (cT.kp k₄ r₃) r₄ (p.next (((k₁.trans k₂).trans k₃).trans k₄) tk₄)
theorem sI {E5:List PE} (h:xg X C n E5) {E:Value→Shared→Prop} {Q:Args→Shared→Prop} {vs:List V} {es:List Expr} {f:Value}
  (F:FM X env m ow Mu [] s.heap) (ok:AB n A) (hm:mH env.scope E5 es=true) (he:jh C m E5=some vs)
  (p:∀vals h' tk,Kp s.heap h'→aE X h' Mu vs vals→Q ⟨vals,[]⟩ {s with heap:=h',toks:=tk}):
  wpAny (model X.prog X.w) A (evalArgs f true (backTo pos (starEach es env)) []) Q E s:=by
 have base:=h env m ow Mu s A E (fun vals s'=>Q ⟨vals,[]⟩ s') vs es pos F ok hm he p;cases E5 with
 |nil=>exact bq (P:=fun es=>wpAny _ A (evalArgs f true (backTo pos (starEach es env)) []) Q E s) hm (evalArgs_nil3 (p [] s.heap s.toks (fun _ _ e=>e) (os (P:=fun vs=>aE X _ Mu vs []) he rfl)))
 |cons a r=> refine sA (P:=fun es=>wpAny _ A (spliced (backTo pos (starEach es env))) _ E s→wpAny _ A (evalArgs f true (backTo pos (starEach es env)) []) Q E s) hm (fun e es _ m2 _ base=>?_) base;rw [eH m2] at base⊢;exact evalArgs_plain base
theorem yQ {sc:Scope} {env:Env} {pos:Pos}:∀{E5:List PE} {es:List Expr},mH sc E5 es=true→(backTo pos (starEach es env)).any (·.1)=false
 |[],_,h=>bq (P:=fun es=>(backTo pos (starEach es env)).any (·.1)=false) h rfl
 |_::_,_,h=>sA (P:=fun es=>(backTo pos (starEach es env)).any (·.1)=false) h fun _ _ _ m2 m3=>by rw [eH m2,List.any_cons,yQ m3];rfl
theorem yR (G:Gn X) (HC:fV X C n) {args:List PE} (ha:xg X C n args):bL X C n (.call f args):=by intro env m ow Mu s A E Q v e F ok hm he p;refine nO (P:=fun e=>wpAny _ A (eval e env) Q E s) hm fun np xs pos hf hg hd mx=>ob he fun vs ea he=>?_;obtain ⟨a,o,fd,xj,ho,hdt⟩:=G.Sn f hf;refine wpAny_Call_NameR (ez G F rfl hg hd (.inl xj) ?_);refine callWith_function_kw (o:=o) (fd:=fd) (sI ha F ok mx ea fun vals h₁ tk₁ k₁ r₁=>⟨⟨(F.kp k₁).hold _ _ ho,hdt⟩,?_⟩);exact HC f vs [] v he a xj A E Q _ Mu vals [] ok.ok (F.kp k₁).hold (F.kp k₁).ex F.new r₁ rfl (p.next k₁ tk₁)
theorem uJ {sc:Scope} {env:Env} {pos:Pos}:∀{pk:List (Nat×PE)} {kws:List Keyword},mK sc pk kws=true→(backToKw pos (keywordEach kws env)).all (·.1.isSome)=true
 |[],_,h=>bq (P:=fun kws=>(backToKw pos (keywordEach kws env)).all (·.1.isSome)=true) h rfl
 |(_,_)::_,_,h=>H9 (P:=fun kws=>(backToKw pos (keywordEach kws env)).all (·.1.isSome)=true) h fun _ _ kws _ h=>by show (true&&(backToKw pos (keywordEach kws env)).all (·.1.isSome))=true;rw [uJ h];rfl
theorem CV (G:Gn X) (HC:fV X C n) {a0:PE} {args:List PE} {kws:List (Nat×PE)} (ha:xg X C n (a0::args)) (hk:So X C n kws):bL X C n (.ic f (a0::args) kws):=by intro env m ow Mu s A E Q v e F ok hm he p;refine lQ (P:=fun e=>wpAny _ A (eval e env) Q E s) hm fun np xs ks pos hf hg hd mx mk _=>ob he fun vs ea he=>ob he fun kvs ek he=>?_;obtain ⟨a,o,fd,xj,ho,hdt⟩:=G.Sn f hf;refine wpAny_Call_Name_kw (ez G F rfl hg hd (.inl xj) (callWith_function_kw (o:=o) (fd:=fd) ?_));refine sA (P:=fun xs=>mH env.scope (a0::args) xs=true→wpAny _ A (evalArgs _ _ (backTo pos (starEach xs env)) _) _ E s) mx (fun e es _ m2 _ mx=>?_) mx;rw [eH m2];refine evalArgs_kw (uJ mk) ?_;rw [←eH m2];refine ha env m ow Mu s A E _ vs _ pos F ok mx ea fun vals h₁ tk₁ k₁ r₁=>?_;refine hk env m ow Mu _ A E _ kvs ks pos (F.kp k₁) ok mk ek fun Z3 h₂ tk₂ k₂ r₂=>?_;have F₂:=(F.kp k₁).kp k₂;exact ⟨⟨F₂.hold _ _ ho,hdt⟩,HC f vs kvs v he a xj A E Q _ Mu vals _ ok.ok F₂.hold F₂.ex F.new (r₁.kp k₂) r₂ (p.next (k₁.trans k₂) tk₂)⟩
theorem Ie (G:Gn X) {b:BI} {args:List PE} (ha:xg X C n args):bL X C n (.bi b args):=by
 intro env m ow Mu s A E Q v e F ok hm he p;refine uE (P:=fun e=>wpAny _ A (eval e env) Q E s) hm fun np xs pos hg hd mx=>ob he fun vs ea he=>?_;refine wpAny_Call_NameR (ez G F rfl hg hd (.inr (G.bi b)) ?_);have key:=sI (f:=nJ b) ha (E:=E) (A:=A) (Q:=fun a s₁=>wpAny (model X.prog X.w) A (call (nJ b) ([]++a.pos) a.kw) Q E s₁) (pos:=pos) F ok mx ea fun vals h₁ tk₁ k₁ r₁=> Sh ok.1 ok.u1 ok.d9 (F.kp k₁).ex he r₁ (p.next k₁ tk₁);have st:=yQ (env:=env) (pos:=pos) mx;have Xq:∀{v:Value},wpAny (model X.prog X.w) A (evalArgs v true (backTo pos (starEach xs env)) []) (fun a s₁=>wpAny (model X.prog X.w) A (call v ([]++a.pos) a.kw) Q E s₁) E s→(∃id,v=.builtin id)∨(∃T,v=.type T)→
   wpAny (model X.prog X.w) A (callWith pos v [] (backTo pos (starEach xs env)) []) Q E s:=fun key h=>h.elim (fun ⟨id,e⟩=>by subst e;exact Calls.callWith_builtin st key) fun ⟨T,e⟩=>by subst e;exact PyProof.Rows.callWith_type st key
 exact Xq key (by cases b <;>first|exact .inl ⟨_,rfl⟩|exact .inr ⟨_,rfl⟩)
theorem Fb {o:Expr} {w:Sem Value} (h:iF o=false):attributeBase o cN env w=w:=by
 cases o <;>first|rfl|skip
 rename_i fe ar kw ps;cases fe <;>first|rfl|skip
 cases ar <;>first|rfl|skip
 cases kw <;>first|rfl|exact tf h
theorem few {xs:List Expr} (h:(backTo pos (starEach xs env)).any (·.1)=false) (hl:xs.length≤20):((backTo pos (starEach xs env)).all (fun x=>!x.1)&&(backToKw pos (keywordEach [] env)).all (fun x=>x.1.isSome)
   &&decide (xs.length+([]:List Keyword).length+(if ([]:List Keyword).isEmpty then 0 else 1)<30))=true:=by
 have h1:(backTo pos (starEach xs env)).all (fun x=>!x.1)=true:=by rw [List.all_eq_true];intro x hx;rw [Bool.not_eq_true',Bool.eq_false_iff];exact List.any_eq_false.mp h x hx
 rw [h1];exact decide_eq_true (Nat.lt_of_le_of_lt hl (by decide))
theorem Fc (G:Gd X) {k:MT} {va:V} {vs:List V} {x:Value} (hold:Kp X.h₀ s.heap) (e:lF k va vs=some v) (r:RV X s.heap Mu va x):s.TypeIs x (nF k)∧∀a,x=.ref a→∃ob,s.heap.get? a=some ob∧ob.dict=none:=by
 cases va <;>first|exact no e|skip
 ·have hk:nF k="str":=by cases k <;>first|rfl|exact no e
  rw [hk];exact r.gT fun t _=>⟨typeIs_str _ _ _,fun a ha=>nomatch ha⟩
 ·rename_i j;have hk:nF k="frozenset":=by cases k <;>first|rfl|exact no e
  rw [hk];refine r.Jv ?_;obtain ⟨n,_,hf⟩:=G.fW j;obtain ⟨es,ep,tt,hob,_⟩:=iW hf hold;exact ⟨⟨_,hob,rfl⟩,fun a ha=>by cases ha;exact ⟨_,hob,rfl⟩⟩
theorem yS (G:Gn X) {k:MT} {o:PE} {args:List PE} (ho:bL X C n o) (ha:xg X C n args):bL X C n (.bZ k o args):=by intro env m ow Mu s A E Q v e F ok hm he p;refine nP (P:=fun e=>wpAny _ A (eval e env) Q E s) hm fun a ap xs pos hline mo RA mx hlen=>ob he fun va ea he=>ob he fun vs es he=>?_;refine wpAny_Call_method (Fb RA) (few (yQ mx) hlen) hline (xh k) (zT k) (zU k) (ho env m ow Mu s A E _ va _ F ok mo ea fun x h₁ tk₁ k₁ r₁=>?_);have F₁:=F.kp k₁;have hty:=Fc (s:={s with heap:=h₁,toks:=tk₁}) G.toGd F₁.hold he r₁;refine ⟨hty.1,hty.2,Calls.callWith_builtin (yQ mx) (sI ha F₁ ok mx es fun vals h₂ tk₂ k₂ r₂=>?_)⟩;exact jV G.toGd (F₁.kp k₂).hold ok.1 (F₁.kp k₂).ex he (r₁.kp k₂) r₂ (p.next (k₁.trans k₂) tk₂)
end
end
section
section
variable {X:Cx} {C:Calls} {n:Nat} {s:Shared} {Mu:List Addr} {h₁:Heap}
theorem bM (h:eV m x=some xs):ah m x=some (.own xs):=by
 unfold eV at h;split at h
 ·rename_i hx;cases h;exact hx
 ·cases h
theorem Ah (h:jQ m x=some v):ah m x=some (.fz v):=yO h
theorem Ai (G:Gn X):bL X C n (.cR x):=by intro env m ow Mu s A E Q v e F ok hm he p;refine sf (P:=fun e=>wpAny _ A (eval e env) Q E s) hm fun np a pos hg mx=>om (P:=fun v=>Post X Mu s v Q→_) he (fun ys hy p=>?_) p;refine wpAny_Call_NameR (ez G F rfl hg (by decide) (.inr (G.bi .len)) ?_);rw [eH (qs mx)];refine Calls.callWith_builtin (id:="len") rfl (evalArgs_plain (spliced_cons (fQ F mx (bM hy) fun val r=>spliced_nil ?_)));obtain ⟨ad,vs,_,rfl,_,hp,hz,rr⟩:=r;refine Calls.call_len_list hp.isList (big hz) ?_;rw [List.size_toArray,rr.length];exact p.same _ ⟨_,rfl⟩
theorem Aj {i:PE} (hi:bL X C n i):bL X C n (.aH x i):=by intro env m ow Mu s A E Q v e F ok hm he p;refine sj (P:=fun e=>wpAny _ A (eval e env) Q E s) hm fun a b pos mo mi=>ob he fun ys ey he=>ob he fun vb eb he=>?_;refine Subscript_ (fQ F mo (bM ey) fun val r=>?_);obtain ⟨ad,vs,_,rfl,_,hp,hz,rr⟩:=r;exact hi env m ow Mu _ A E _ vb _ F ok mi eb fun y h₂ tk₂ k₂ r₂=>ug he (hp.at fun o e=>k₂ _ _ e).isList (rr.kp k₂) r₂ (p.next k₂ tk₂)
theorem Ak (hlo:bL X C n lo):bL X C n (.gm x lo):=by intro env m ow Mu s A E Q v e F ok hm he p;refine sq (P:=fun e=>wpAny _ A (eval e env) Q E s) hm fun a l p1 p2 mo mi=>ob he fun ys ey he=>ob he fun vb eb he=>?_;refine Subscript_ (fQ F mo (bM ey) fun val r=>?_);obtain ⟨ad,vs,_,rfl,_,hp,hz,rr⟩:=r;refine wpAny_Slice ?_;rw [evalPart_some,evalPart_none];refine hlo env m ow Mu _ A E _ vb _ F ok mi eb fun y h₂ tk₂ k₂ r₂=>wpAny_pure (wpAny_pure ?_);exact uh (s:={s with heap:=h₂,toks:=tk₂}) (F.kp k₂).ex he (hp.at fun o e=>k₂ _ _ e).isList hz (rr.kp k₂) r₂ rfl rfl (p.next k₂ tk₂)
theorem Kh {x:PE} (hx:ji X C n x):ji X C n (.not x):=by intro env m ow Mu s A E Q b e F ok hm he p;exact zY (P:=fun e=>wpAny _ A (isTrue e env (eval e env)) Q E s) hm fun a pos ma=>om (P:=fun b=>(∀h' tk,Kp s.heap h'→Q b {s with heap:=h',toks:=tk})→_) he (fun c ec p=>isTrue_not (hx env m ow Mu s A E _ c a F ok ma ec p)) p
theorem Kl {t a b:PE} (ht:ji X C n t) (ha:ji X C n a) (hb:ji X C n b):ji X C n (.ite t a b):=by
 intro env m ow Mu s A E Q v e F ok hm he p;refine qn (P:=fun e=>wpAny _ A (isTrue e env (eval e env)) Q E s) hm fun x y z pos mt ma mb=>ob he fun c ec he=>?_;refine isTrue_IfExp (ht env m ow Mu s A E _ c _ F ok mt ec fun h₁ tk₁ k₁=>?_);cases c
 ·exact hb env m ow Mu _ A E Q v _ (F.kp k₁) ok mb he fun h₂ tk₂ k₂=>p h₂ tk₂ (k₁.trans k₂)
 ·exact ha env m ow Mu _ A E Q v _ (F.kp k₁) ok ma he fun h₂ tk₂ k₂=>p h₂ tk₂ (k₁.trans k₂)
theorem Km {l:PE} (hl:ji X C n l) (hr:ji X C n r):ji X C n (.and l r):=by
 intro env m ow Mu s A E Q v e F ok hm he p;refine qm (P:=fun e=>wpAny _ A (isTrue e env (eval e env)) Q E s) hm fun a b rest pos ma mb=>ob he fun t et he=>?_;have hrest:∀(s':Shared),wpAny (model X.prog X.w) A (isTrue (dR .And b rest pos) env (eval (dR .And b rest pos) env)) Q E s'→wpAny (model X.prog X.w) A (isTrue (.BoolOp .And (b::rest) pos) env (eval (.BoolOp .And (b::rest) pos) env)) Q E s':=by
  intro s' h₃;cases rest with
  |nil=>
   refine isTrue_and (wpAny_mono h₃ (fun v s₂ h₃=>?_) fun _ _ e=>e);cases v
   ·exact h₃
   ·exact isTrue_and_nil h₃
  |cons _ _=>exact h₃
 refine isTrue_and (hl env m ow Mu s A E _ t a F ok ma et fun h₁ tk₁ k₁=>?_);cases t
 ·exact os (P:=fun v=>(∀h' tk,Kp s.heap h'→Q v {s with heap:=h',toks:=tk})→_) he (fun p=>p _ _ k₁) p
 ·exact hrest _ (hr env m ow Mu _ A E _ v _ (F.kp k₁) ok mb he fun h₂ tk₂ k₂=>p h₂ tk₂ (k₁.trans k₂))
theorem Su {l:PE} (hl:ji X C n l) (hr:ji X C n r):ji X C n (.or l r):=by
 intro env m ow Mu s A E Q v e F ok hm he p;refine uD (P:=fun e=>wpAny _ A (isTrue e env (eval e env)) Q E s) hm fun a b rest pos ma mb=>ob he fun t et he=>?_;have hrest:∀(s':Shared),wpAny (model X.prog X.w) A (isTrue (dR .Or b rest pos) env (eval (dR .Or b rest pos) env)) Q E s'→wpAny (model X.prog X.w) A (isTrue (.BoolOp .Or (b::rest) pos) env (eval (.BoolOp .Or (b::rest) pos) env)) Q E s':=by
  intro s' h₃;cases rest with
  |nil=>
   refine isTrue_or (wpAny_mono h₃ (fun v s₂ h₃=>?_) fun _ _ e=>e);cases v
   ·exact isTrue_or_nil h₃
   ·exact h₃
  |cons _ _=>exact h₃
 refine isTrue_or (hl env m ow Mu s A E _ t a F ok ma et fun h₁ tk₁ k₁=>?_);cases t
 ·exact hrest _ (hr env m ow Mu _ A E _ v _ (F.kp k₁) ok mb he fun h₂ tk₂ k₂=>p h₂ tk₂ (k₁.trans k₂))
 ·exact os (P:=fun v=>(∀h' tk,Kp s.heap h'→Q v {s with heap:=h',toks:=tk})→_) he (fun p=>p _ _ k₁) p
theorem Kn (G:Gn X) {op:Cp} {l:PE} (hl:bL X C n l) (hr:bL X C n r):ji X C n (.cmp op l r):=by intro env m ow Mu s A E Q v e F ok hm he p;refine qo (P:=fun e=>wpAny _ A (isTrue e env (eval e env)) Q E s) hm fun a b pos ma mb hs=>ob he fun va ea he=>ob he fun vb eb ec=>?_;refine wpAny_isTrue_Compare1 (hl env m ow Mu s A E _ va _ F ok ma ea fun x h₁ tk₁ k₁ r₁=>?_) (behind hs);refine hr env m ow Mu _ A E _ vb _ (F.kp k₁) ok mb eb fun y h₂ tk₂ k₂ r₂=>?_;exact Cm G.toGd ((F.kp k₁).kp k₂).hold ok.u9 ec (r₁.kp k₂) r₂ fun tk=>wpAny_truthy_bool (p _ _ (k₁.trans k₂))
noncomputable def plainT (e:Expr) (env:Env):Prop:=isTrue e env (eval e env)=(do let v←eval e env;standAt e.pos;holding [v] (truthy v))
theorem xm {γ δ:Type} {x:Option α} {f:α→Option β} {g:α→β→Option γ} {t:γ→Option δ}:(x.bind fun a=>(f a).bind fun b=>(g a b).bind t)=(x.bind fun a=>(f a).bind fun b=>g a b).bind t:=by rw [Option.bind_assoc];exact congrArg _ (funext fun a=>(Option.bind_assoc ..).symm)
theorem k8 (h:bL X C n pe) (hp:∀sc e,mE sc pe e=true→∀env,plainT e env) (ht:∀m,tr C m pe=(ev C m pe).bind jy):ji X C n pe:=by intro env m ow Mu s A E Q b e F ok hm he p;rw [ht] at he;refine ob he fun v Ag et=>isTrue_plain (h env m ow Mu s A E _ v e F ok hm Ag fun x h₁ tk₁ k₁ r₁=>?_) (hp _ _ hm env);exact wF et r₁ fun tk=>p _ _ k₁
theorem Ko:ji X C n (.var x):=k8 CT (fun _ _ hm env=>j9 (P:=fun e=>plainT e env) hm fun _ _ _ _=>rfl) fun _=>rfl
theorem Kq {op:Op} {l:PE} (h:bL X C n (.bin op l r)):ji X C n (.bin op l r):=k8 h (fun _ _ hm env=>ql (P:=fun e=>plainT e env) hm fun _ _ _ _ _=>rfl) fun _=>xm
theorem Kr {o i:PE} (h:bL X C n (.idx o i)):ji X C n (.idx o i):=k8 h (fun _ _ hm env=>qp (P:=fun e=>plainT e env) hm fun _ _ _ _ _=>rfl) fun _=>xm
theorem Fd (h:bL X C n (.call f as)):ji X C n (.call f as):=k8 h (fun _ _ hm env=>nO (P:=fun e=>plainT e env) hm fun _ _ _ _ _ _ _=>rfl) fun _=>(Option.bind_assoc ..).symm
theorem Sv {b:BI} (h:bL X C n (.bi b as)):ji X C n (.bi b as):=k8 h (fun _ _ hm env=>uE (P:=fun e=>plainT e env) hm fun _ _ _ _ _ _=>rfl) fun _=>(Option.bind_assoc ..).symm
theorem Fe {k:MT} {o:PE} (h:bL X C n (.bZ k o as)):ji X C n (.bZ k o as):=k8 h (fun _ _ hm env=>nP (P:=fun e=>plainT e env) hm fun _ _ _ _ _ _ _ _ _=>rfl) fun _=>xm
theorem Al:ji X C n (.cJ x):=by
 intro env m ow Mu s A E Q b e F ok hm he p;refine om (P:=fun b=>(∀h' tk,Kp s.heap h'→Q b {s with heap:=h',toks:=tk})→_) he (fun ys hy p=>?_) p;refine isTrue_plain (fQ F hm (bM hy) fun val r=>?_) (j9 (P:=fun e=>plainT e env) hm fun _ _ _ _=>rfl);obtain ⟨ad,vs,_,rfl,_,hp,hz,rr⟩:=r;refine wpAny_truthy_list hp.isList (big hz) ?_;have:(!(List.toArray vs).isEmpty)=(!ys.isEmpty):=by have:=rr.length;cases ys <;>cases vs <;>first|rfl|cases this
 rw [this];exact p _ _ fun _ _ e=>e
end
end
section
section
variable {X:Cx} {env:Env} {m m':ao} {ow:Nat→Option Addr} {Mu:List Addr} {Ex:List Str} {h h':Heap}
theorem FM.tr (F:FM X env m ow Mu Ex h) (W:List Addr) (hk:∀b o,b∉W→h.get? b=some o→h'.get? b=some o) (hW:∀b∈W,b∈Mu) (hM:∀a∈eL,a∈Mu∨h.get? a=none)
  (hex:∀a∈eL,∃o,h'.get? a=some o) (hsub:∀a,a∈Mu→a∉W→a∈eL) (h1:env.locals∉W) (h2:∀n c,env.kindOf n=some .cell∨env.kindOf n=some .free→env.cells.lookup n=some c→c∉W)
  (h3:∀x a,ow x=some a→a∉W):FM X env m ow eL Ex h' where
 kind:=F.kind
 glob:=F.glob
 DZ:=F.DZ
 hold:=fun b o e=>hk b o (fun q=>by rw [F.new b (hW b q)] at e;cases e) (F.hold b o e)
 ex:=hex
 new:=fun a ha=>(hM a ha).elim (F.new a) fun q=>by
  cases e:X.h₀.get? a with
  |none=>rfl
  |some o=>rw [F.hold a o e] at q;cases q
 eO:=hsub _ F.eO h1
 ns:=let ⟨mp,e⟩:=F.ns;⟨mp,e.at fun o ho=>hk _ o h1 ho⟩
 cell:=fun n q=>let ⟨c,v,a,b,d⟩:=F.cell n q;⟨c,v,a,hsub c b (h2 n c q a),kc d fun o e=>hk c o (h2 n c q a) e⟩
 apart:=F.apart
 var:=fun x sl e a q=>by
  obtain ⟨v,p,r⟩:=F.var x sl e a q;have to:∀a o,a∉Mu→h.get? a=some o→a∉eL∧h'.get? a=some o:=fun a o n e=>⟨fun q=>(hM a q).elim n fun z=>(nomatch z.symm.trans e),hk a o (fun q=>n (hW a q)) e⟩;refine ⟨v,p.imp (fun ⟨k1,mp,n1,e1⟩=>⟨k1,mp,n1.at fun o ho=>hk _ o h1 ho,e1⟩) fun ⟨k1,c,l1,c1⟩=>⟨k1,c,l1,kc c1 fun o e=>hk c o (h2 _ c k1 l1) e⟩,?_⟩;cases sl with
  |fz w=>exact RV.to to _ _ r
  |own xs=> obtain ⟨ad,vs,e1,e2,e3,e4,e5,e6⟩:=r;exact ⟨ad,vs,e1,e2,hsub ad e3 (h3 x ad e1),e4.at fun o ho=>hk _ _ (h3 x ad e1) ho,e5,aE.to to _ _ e6⟩
 inj:=F.inj
 gU:=fun x a e=>hsub a (F.gU x a e) (h3 x a e)
 dom:=F.dom
 code:=F.code
theorem mL {a:α} {x y:List α} (h:a∈x):a∈x++y:=List.mem_append.mpr (.inl h)
theorem mR {a:α} {x y:List α} (h:a∈y):a∈x++y:=List.mem_append.mpr (.inr h)
theorem Me {a:α} {x y:List α} {P:Prop} (h:a∈x++y) (k1:a∈x→P) (k2:a∈y→P):P:=(List.mem_append.mp h).elim k1 k2
theorem FM.grow (F:FM X env m ow Mu Ex h) (hk:Kp h h') (as:List Addr) (hn:∀a∈as,h.get? a=none) (he:∀a∈as,∃o,h'.get? a=some o):FM X env m ow (as++Mu) Ex h':= F.tr [] (fun b o _ e=>hk b o e) (fun _ h=>nomatch h) (fun a ha=>Me ha (fun q=>.inr (hn a q)) .inl) (fun a ha=>Me ha (he a) fun q=>let ⟨o,e⟩:=F.ex a q;⟨o,hk a o e⟩) (fun _ h _=>mR h) List.not_mem_nil (fun _ _ _ _=>List.not_mem_nil) fun _ _ _=>List.not_mem_nil
theorem FM.jG (F:FM X env m ow Mu Ex h) (n:Str) (c:Addr) (q:env.kindOf n=some .cell∨env.kindOf n=some .free) (hl:env.cells.lookup n=some c):c∈Mu:=by obtain ⟨c',v,a,b,d⟩:=F.cell n q;rw [hl] at a;cases a;exact b
theorem FM.xo (F:FM X env m ow Mu Ex h) (W:List Addr) (hk:∀b o,b∉W→h.get? b=some o→h'.get? b=some o) (hW:∀b∈W,b∈Mu) (he:∀b∈W,∃o,h'.get? b=some o)
  (h1:env.locals∉W) (h2:∀n c,env.kindOf n=some .cell∨env.kindOf n=some .free→env.cells.lookup n=some c→c∉W) (h3:∀x a,ow x=some a→a∉W):FM X env m ow Mu Ex h':=
 F.tr W hk hW (fun _=>.inl) (fun a ha=>if q:a∈W then he a q else let ⟨o,e⟩:=F.ex a ha;⟨o,hk a o q e⟩) (fun _ h _=>h) h1 h2 h3
theorem FM.back (F:FM X env m' ow Mu [] h) (hg:∀x,nm x∉Ex→ah m x=ah m' x) (hd:∀x sl,ah m x=some sl→x<88):FM X env m ow Mu Ex h:=
 {F with
  var:=fun x sl e a q=>F.var x sl (by rw [←hg x q];exact e) a (by simp)
  dom:=hd}
variable {A:Around} {E:Value→Shared→Prop} {s:Shared}
noncomputable def chg (env:Env) (xs:List Nat) (b:Addr):Prop:=b=env.locals∨∃x∈xs,env.kindOf (nm x)=some .cell∧env.cells.lookup (nm x)=some b
theorem kh {b:Addr} {xs:List Nat} (h:b=env.locals∨∃n,env.kindOf n=some .cell∧n=nm x∧env.cells.lookup n=some b) (hx:x∈xs):chg env xs b:= h.imp id fun ⟨_,k1,e,k2⟩=>⟨x,hx,e▸k1,e▸k2⟩
noncomputable def CW (Ex:List Str):List Nat→List Str
 |[]=>Ex
 |x::r=>CW (Ex.filter (· !=nm x)) r
theorem cX (h:jN m x v=some m'):m'=ak m x (.fz v)∧∀xs,ah m x≠some (.own xs):=by
 unfold jN at h;split at h
 ·cases h
 ·rename_i hx;cases h;exact ⟨rfl,fun xs e=>hx _ e⟩
theorem sJ:∀(xs:List Nat) (es:List Expr) (vs:List V) (vals:List Value) (m:ao) (Ex:List Str) (s:Shared) (Q:Unit→Shared→Prop),FM X env m ow Mu Ex s.heap→nM env.scope xs es=true→fq m xs vs=some m'→
  aE X s.heap Mu vs vals→
  (∀h' tk,(∀b o,¬chg env xs b→s.heap.get? b=some o→h'.get? b=some o)→FM X env m' ow Mu (CW Ex xs) h'→Q () {s with heap:=h',toks:=tk})→
  wpAny (model X.prog X.w) A (assignInOrder ((assignEach es env).map (·.2)) vals) Q E s
 |[],es,vs,vals,m,Ex,s,Q,F,hm,he,r,p=>bq (P:=fun es=>wpAny _ A (assignInOrder ((assignEach es env).map (·.2)) vals) Q E s) hm
  (oi he fun hv he=>bq (P:=fun vs=>aE X s.heap Mu vs vals→_) hv (fun r=>r.ue (assignInOrder_nil (p s.heap s.toks (fun _ _ _ e=>e) (by cases he;exact F)))) r)
 |x::xs,es,vs,vals,m,Ex,s,Q,F,hm,he,r,p=>by refine uB (P:=fun es=>wpAny _ A (assignInOrder ((assignEach es env).map (·.2)) vals) Q E s) hm fun e es ht hms=>ob he fun q hq he=>ob he fun m1 h1 he=>?_;refine jP (P:=fun vs=>aE X s.heap Mu vs vals→_) hq (fun r=>r.gM fun val rest r1 r2=>?_) r;obtain ⟨rfl,hx⟩:=cX h1;refine gC (P:=fun e=>wpAny _ A (assignInOrder ((assignEach (e::es) env).map (·.2)) _) Q E s) ht fun pos _ _ hb=>?_;refine assignInOrder_cons (wpAny_assign_Name (kg F hb hx r1 fun h' tk b hbc cW F'=>?_));have Xr:b∈Mu:=hbc.elim (fun e=>e▸F.eO) fun ⟨n,k1,_,k2⟩=>F.jG n b (.inl k1) k2;refine sJ xs es _ rest _ _ _ Q F' hms he (aE.keep (fun c o hc e=>cW c o (fun q=>hc (q▸Xr)) e) _ _ r2) fun h'' tk' hk F''=>p h'' tk' (fun c o hc e=>?_) F'';refine hk c o (fun q=>hc (q.imp id fun ⟨y,hy,z⟩=>⟨y,List.mem_cons_of_mem _ hy,z⟩)) (cW c o (fun q=>hc ?_) e);exact q▸kh hbc (List.mem_cons_self ..)
theorem CX:∀(xs:List Nat) (es:List Expr),nM env.scope xs es=true→(assignEach es env).length=es.length∧(assignEach es env).findIdx? (·.1)=none∧es.length=xs.length
 |[],es,h=>bq (P:=fun es=>(assignEach es env).length=es.length∧(assignEach es env).findIdx? (·.1)=none∧es.length=0) h ⟨rfl,rfl,rfl⟩
 |x::xs,es,h=>uB (P:=fun es=>(assignEach es env).length=es.length∧(assignEach es env).findIdx? (·.1)=none∧es.length=(x::xs).length) h fun e es ht hms=>
  gC (P:=fun e=>(assignEach (e::es) env).length=(e::es).length∧(assignEach (e::es) env).findIdx? (·.1)=none∧(e::es).length=(x::xs).length) ht fun pos _ _ _=>by
  obtain ⟨h1,h2,h3⟩:=CX xs es hms;refine ⟨congrArg Nat.succ h1,?_,congrArg Nat.succ h3⟩;show ((false,assign (.Name (nm x) pos) env)::assignEach es env).findIdx? (·.1)=none;rw [List.findIdx?_cons,h2];rfl
theorem uK:∀(xs:List Nat) (vs:List V) (m:ao),fq m xs vs=some m'→vs.length=xs.length
 |[],vs,_,h=>oi h fun h _=>bq (P:=fun vs=>vs.length=0) h rfl
 |_::xs,vs,_,h=>ob h fun q hq h=>ob h fun m1 _ h=>jP (P:=fun vs=>vs.length=_+1) hq (congrArg Nat.succ (uK xs q.2 m1 h))
theorem iH {t:Expr} {val:Value} {Q:Unit→Shared→Prop} (hh:A.handled=none) (F:FM X env m ow Mu Ex s.heap) (hm:mw env.scope tg t=true) (he:bQ m tg v=some m') (r:RV X s.heap Mu v val)
  (p:∀h' tk,(∀b o,¬chg env (aT tg) b→s.heap.get? b=some o→h'.get? b=some o)→FM X env m' ow Mu (CW Ex (aT tg)) h'→Q () {s with heap:=h',toks:=tk}):
  wpAny (model X.prog X.w) A (assign t env val) Q E s:=by
 cases tg with
 |one x=> obtain ⟨rfl,hx⟩:=cX he;refine gC (P:=fun t=>wpAny _ A (assign t env val) Q E s) hm fun pos _ _ hb=>?_;exact wpAny_assign_Name (kg F hb hx r fun h' tk b hbc cW F'=>p h' tk (fun c o hc e=>cW c o (fun q=>hc (q▸kh hbc (List.mem_singleton.mpr rfl))) e) F')
 |many xs=> refine ob he fun vs hv he=>Cf hv r fun a vals hMu ht hz rr=>?_;refine i8 (P:=fun t=>wpAny _ A (assign t env (.ref a)) Q E s) hm fun es k pos hm=>?_;obtain ⟨h1,h2,h3⟩:=CX xs es hm;have hl:=uK xs vs m he;refine assign_Tuple_tuple hh ht (by rw [h1,h3,←hl,←rr.length,List.size_toArray]) h2 fun h' hx=>?_;have hk:Kp s.heap h':=fun b o e=>hx b o (Nat.ne_of_lt (Heap.lt_size e)) e;exact sJ xs es vs vals m Ex _ Q (F.kp hk) hm he (rr.kp hk) fun h'' tk hk' F'=>p h'' tk (fun b o hb e=>hk' b o hb (hk b o e)) F'
end
end
noncomputable def cQ (env:Env):List (Str×NameKind)→List (Str×Addr)→List (Str×Addr)
 |[],acc=>acc
 |(n,k)::r,acc=>cQ env r (if k==.free then (n,(env.cells.lookup n).getD 0)::acc else acc)
theorem yT {sc:Scope} (hf:∀n k,(n,k)∈sc.names→k=.free→∃c,env.cells.lookup n=some c):closureFor sc env=pure (cQ env sc.names []):=by
 simp only [closureFor];have key:∀(names:List (Str×NameKind)) (acc:List (Str×Addr)),(∀n k,(n,k)∈names→k=.free→∃c,env.cells.lookup n=some c)→
   (forIn names acc fun (x:Str×NameKind) (r:List (Str×Addr))=>if (x.2==NameKind.free)=true then do
     let a←cellOf env x.1
     pure (ForInStep.yield ((x.1,a)::r)) else pure (ForInStep.yield r):Sem (List (Str×Addr)))=pure (cQ env names acc):=by
  intro names;induction names with
  |nil=>intro acc _;rfl
  |cons p names ih=>
   intro acc h;obtain ⟨n,k⟩:=p;rw [List.forIn_cons];cases hk:k==NameKind.free with
   |true=>
    obtain ⟨c,hc⟩:=h n k List.mem_cons_self (eq_of_beq hk);have hce:cellOf env n=pure c:=by unfold cellOf;rw [hc]
    have:cQ env ((n,k)::names) acc=cQ env names ((n,c)::acc):=by simp [cQ,hk,hc]
    rw [this,←ih _ fun n k hm=>h n k (List.mem_cons_of_mem _ hm)];simp only [if_true,hce,pure_bind]
   |false=>
    have:cQ env ((n,k)::names) acc=cQ env names acc:=by simp [cQ,hk]
    rw [this,←ih _ fun n k hm=>h n k (List.mem_cons_of_mem _ hm)];simp only [Bool.false_eq_true,if_false,pure_bind]
 have:=key sc.names [] hf
 first
  |exact this
  |(rw [this];rfl)
  |simpa using this
theorem dF {x:Str} {r:List Str} (h:dh (x::r)=true):x∉r∧dh r=true:=by simp only [dh,Bool.and_eq_true,Bool.not_eq_true'] at h;exact ⟨by simpa using h.1,h.2⟩
theorem ki {env:Env}:∀(names:List (Str×NameKind)) (acc:List (Str×Addr)) (n:Str),n∉names.map (·.1)→(cQ env names acc).lookup n=acc.lookup n
 |[],_,_,_=>rfl
 |(n',k)::r,acc,n,h=>by
  have h1:n≠n':=fun e=>h (by simp [e]);have h2:n∉r.map (·.1):=fun e=>h (List.mem_cons_of_mem _ e);rw [cQ,ki r _ n h2];split
  ·rw [List.lookup_cons,beq_eq_false_iff_ne.mpr h1]
  ·rfl
theorem gG {env:Env}:∀(names:List (Str×NameKind)) (acc:List (Str×Addr)) (n:Str),dh (names.map (·.1))=true→
  (cQ env names acc).lookup n=if names.lookup n=some .free then some ((env.cells.lookup n).getD 0) else acc.lookup n
 |[],_,_,_=>by simp [cQ]
 |(n',k)::r,acc,n,h=>by
  obtain ⟨h1,h2⟩:=dF (by simpa using h)
  by_cases q:n=n'
  ·subst q;rw [cQ,ki r _ n h1,List.lookup_cons,beq_self_eq_true];cases k <;>simp [List.lookup_cons]
  ·have hb:(n==n')=false:=beq_eq_false_iff_ne.mpr q;rw [cQ,gG r _ n h2,List.lookup_cons,hb];split
   ·rfl
   ·split
    ·rw [List.lookup_cons,hb]
    ·rfl
theorem bX:∀(names:List (Str×NameKind)) (k:Nat) (acc:List (Str×Addr)),cellsFrom k names acc=cellsFrom k names []++acc
 |[],_,_=>rfl
 |(n,kd)::r,k,acc=>by
  unfold cellsFrom;split
  ·rw [bX r (k+1) ((n,k)::acc),bX r (k+1) [(n,k)],List.append_assoc];rfl
  ·exact bX r k acc
theorem dU:∀(names:List (Str×NameKind)) (k:Nat) (n:Str) (c:Addr),(n,c)∈cellsFrom k names []→(n,NameKind.cell)∈names
 |[],_,_,_,h=>by simp [cellsFrom] at h
 |(n',kd)::r,k,n,c,h=>by
  unfold cellsFrom at h;split at h
  ·rename_i hk;rw [bX] at h;rcases List.mem_append.mp h with h|h
   ·exact List.mem_cons_of_mem _ (dU r _ n c h)
   ·have:=List.mem_singleton.mp h;cases this;have hk:=eq_of_beq hk;subst hk;exact List.mem_cons_self
  ·exact List.mem_cons_of_mem _ (dU r _ n c h)
theorem nT (l m:List (Str×Addr)) (n:Str):(l++m).lookup n=match l.lookup n with|some c=>some c|none=>m.lookup n:=by
 induction l with
 |nil=>rfl
 |cons p l ih=> obtain ⟨k,c⟩:=p;rw [List.cons_append,List.lookup_cons,List.lookup_cons];cases n==k <;>simp [ih]
theorem cellsFrom_some:∀(names:List (Str×NameKind)) (k:Nat) (n:Str),(n,NameKind.cell)∈names→∃c,(cellsFrom k names []).lookup n=some c
 |[],_,_,h=>by simp at h
 |(n',kd)::r,k,n,h=>by
  unfold cellsFrom;split
  ·rename_i hk;rw [bX,nT];rcases List.mem_cons.mp h with h|h
   ·have hn:n=n':=(Prod.mk.inj h).1;subst hn;cases hc:(cellsFrom (k+1) r []).lookup n with
    |some c=>exact ⟨c,rfl⟩
    |none=>exact ⟨k,by simp⟩
   ·obtain ⟨c,hc⟩:=cellsFrom_some r (k+1) n h;exact ⟨c,by rw [hc]⟩
  ·rename_i hk;rcases List.mem_cons.mp h with h|h
   ·cases h;simp at hk
   ·exact cellsFrom_some r k n h
theorem fB {α:Type}:∀{l:List (Str×α)} {n:Str},(∀c,(n,c)∉l)→l.lookup n=none
 |[],_,_=>rfl
 |(k,c)::r,n,h=>by rw [List.lookup_cons];have:(n==k)=false:=beq_eq_false_iff_ne.mpr fun e=>h c (by simp [e]);rw [this];exact fB fun c hc=>h c (List.mem_cons_of_mem _ hc)
theorem mem_lookup {α:Type}:∀{l:List (Str×α)} {n:Str} {c:α},dh (l.map (·.1))=true→(n,c)∈l→l.lookup n=some c
 |[],_,_,_,h=>by simp at h
 |(k,d)::r,n,c,hd,h=>by
  obtain ⟨h1,h2⟩:=dF (by simpa using hd);rw [List.lookup_cons];rcases List.mem_cons.mp h with h|h
  ·cases h;simp
  ·have:(n==k)=false:=beq_eq_false_iff_ne.mpr fun e=>h1 (by rw [←e];exact List.mem_map.mpr ⟨(n,c),h,rfl⟩);rw [this];exact mem_lookup h2 h
noncomputable def bN (sc:Scope) (env:Env) (L:Addr):Env:= {scope:=dY sc env.scope,locals:=L,globals:=env.globals,cells:=cellsFrom (L+1) sc.names (cQ env sc.names []),qual:=env.qual,func:=none,code:=env.code,frame:=env.frame,builtins:=env.builtins}
theorem uL (outer:Scope):∀(names:List (Str×NameKind)) (n:Str),
  (names.map fun (n,k)=>if (k==NameKind.free&&outer.kind==.function&&outer.names.lookup n==some .cell)=true then (n,NameKind.cell) else (n,k)).lookup n=
   (names.lookup n).map fun k=>if (k==NameKind.free&&outer.kind==.function&&outer.names.lookup n==some .cell)=true then NameKind.cell else k
 |[],_=>rfl
 |(n',k)::r,n=>by
  have ih:=uL outer r n;rw [List.map_cons];dsimp only
  by_cases q:n=n'
  ·subst q;have e1:((n,k)::r).lookup n=some k:=by simp [List.lookup_cons]
   rw [e1,Option.map_some]
   by_cases hc:(k==NameKind.free&&outer.kind==.function&&outer.names.lookup n==some .cell)=true
   ·rw [if_pos hc,if_pos hc];simp [List.lookup_cons]
   ·rw [if_neg hc,if_neg hc];simp [List.lookup_cons]
  ·have hb:(n==n')=false:=beq_eq_false_iff_ne.mpr q;have e1:((n',k)::r).lookup n=r.lookup n:=by simp [List.lookup_cons,hb]
   rw [e1,←ih]
   by_cases hc:(k==NameKind.free&&outer.kind==.function&&outer.names.lookup n'==some .cell)=true
   ·rw [if_pos hc];simp only [List.lookup_cons,hb]
   ·rw [if_neg hc];simp only [List.lookup_cons,hb]
theorem nU {M:Model} {E:Value→Shared→Prop} {sc:Scope} {cl:List (Str×Addr)} {Q:Env→Shared→Prop}
  (h:Q {scope:=sc,locals:=s.heap.objs.size,globals:=env.globals,cells:=cellsFrom (s.heap.objs.size+1) sc.names cl,qual:=env.qual,func:=none,code:=env.code,frame:=env.frame,builtins:=env.builtins}
   {s with heap:=pushCells (s.heap.push {cls:=.type "dict",data:=.dict #[]}) sc.names}):
  wpAny M A (newFunctionEnv sc env.globals cl [] env.qual none .none (some env)) Q E s:=by
 simp only [newFunctionEnv,Option.isSome_some,if_true];refine wpAny_bind (wpAny_alloc ?_);refine wpAny_bind (wpAny_layCells _ (fun name kind cells=>by cases hkc:kind==NameKind.cell <;>simp [hkc]) _ _ _ _ ?_);rw [show ({s with heap:=s.heap.push {cls:=.type "dict",data:=.dict #[]}}:Shared).heap.objs.size=s.heap.objs.size+1 from Heap.size_push ..];simp only [List.forIn_nil];exact wpAny_bind (wpAny_pure (wpAny_pure h))
section
noncomputable def uM (sc:Scope):List Str:=(sc.names.filter fun p=>uu (some p.2)).map (·.1)
structure sM (outer sc:Scope) (tg:Tg):Prop where
 kind:sc.kind=.function
 nd:dh (sc.names.map (·.1))=true
 Z4:∀x∈aT tg,uu (knd sc x)=true
 free:∀n,(n,NameKind.free)∈sc.names→outer.names.lookup n=some .cell∨outer.names.lookup n=some .free
 own:∀n k,(n,k)∈sc.names→(k=.local∨k=.cell)→n=(".0":Str)∨∃x∈aT tg,nm x=n
theorem sM.of {sc:Scope} (h:r9 outer sc tg=true):sM outer sc tg:=by
 unfold r9 at h;simp only [Bool.and_eq_true] at h;obtain ⟨⟨⟨h1,h2⟩,h3⟩,h4⟩:=h;refine ⟨eq_of_beq h1,h2,fun x hx=>List.all_eq_true.mp h3 x hx,fun n hn=>?_,fun n k hn hk=>?_⟩
 ·have:=List.all_eq_true.mp h4 _ hn;simpa using this
 ·have:=List.all_eq_true.mp h4 _ hn;rcases hk with rfl|rfl <;>simpa using this
section
variable {X:Cx} {env:Env} {m m':ao} {ow:Nat→Option Addr} {Mu:List Addr} {h:Heap}
theorem sO {sc:Scope} {n:Str} {k':NameKind} (hl:(dY sc outer).names.lookup n=some k'):∃k,sc.names.lookup n=some k∧(k=k'∨(k=.free∧k'=.cell∧outer.names.lookup n=some .cell)):=by
 unfold dY at hl;rw [uL] at hl;obtain ⟨k,hk,e⟩:=Option.map_eq_some_iff.mp hl;refine ⟨k,hk,?_⟩;split at e
 ·rename_i hc;simp only [Bool.and_eq_true,beq_iff_eq] at hc;exact .inr ⟨hc.1.1,e.symm,hc.2⟩
 ·exact .inl e
noncomputable abbrev dG (sc:Scope) (L:Addr):List Addr:=L::(cellsFrom (L+1) sc.names []).map (·.2)
noncomputable abbrev fC (h:Heap) (sc:Scope):Heap:=pushCells (h.push {cls:=.type "dict",data:=.dict #[]}) sc.names
theorem mJ (h:Heap) (sc:Scope):Kp h (fC h sc):=fun b o e=>pushCells_keeps _ _ b o (Heap.get?_push_of_some _ e)
theorem fD (h:Heap) (sc:Scope):CellsOk (fC h sc) (h.objs.size+1) (cellsFrom (h.objs.size+1) sc.names []):=by
 have:=cellsFrom_ok sc.names (h.push {cls:=.type "dict",data:=.dict #[]}) (h.objs.size+1) [] ⟨fun _ _ hm=>(nomatch hm),List.Pairwise.nil⟩ (by rw [Heap.size_push];exact Nat.le_refl _)
 rwa [Heap.size_push] at this
theorem kj {sc:Scope}:∀a∈dG sc h.objs.size,h.get? a=none:=fun a ha=>by
 rcases List.mem_cons.mp ha with rfl|ha
 ·exact aM (Nat.le_refl _)
 ·obtain ⟨⟨n,c⟩,hm,rfl⟩:=List.mem_map.mp ha;exact aM (Nat.le_of_succ_le ((fD h sc).empty n c hm).2)
theorem yU (h:Heap) (sc:Scope):(fC h sc).Ns h.objs.size fun _=>none:=(Heap.Ns.new h (.type "dict")).keeps (pushCells_keeps _ _)
theorem Ff {sc:Scope}:∀a∈dG sc h.objs.size,∃o,(fC h sc).get? a=some o:=fun a ha=>by
 rcases List.mem_cons.mp ha with rfl|ha
 ·obtain ⟨o,_,_,ho,_⟩:=yU h sc;exact ⟨o,ho⟩
 ·obtain ⟨⟨n,c⟩,hm,rfl⟩:=List.mem_map.mp ha;obtain ⟨o,ho,_⟩:=((fD h sc).empty n c hm).1;exact ⟨o,ho⟩
theorem gf (sc:Scope) (env:Env) (L:Addr) (n:Str):(bN sc env L).cells.lookup n=match (cellsFrom (L+1) sc.names []).lookup n with|some c=>some c|none=>(cQ env sc.names []).lookup n:=by
 show (cellsFrom (L+1) sc.names (cQ env sc.names [])).lookup n=_;rw [bX,nT]
 all_goals (cases (cellsFrom (L+1) sc.names []).lookup n <;>rfl)
theorem nV {sc:Scope} (F:FM X env m ow Mu [] h) (ok:sM env.scope sc tg):
  FM X (bN sc env h.objs.size) m ow (dG sc h.objs.size++Mu) (uM sc) (fC h sc):=by
 have G:=F.grow (mJ h sc) (dG sc h.objs.size) kj Ff;have CO:=fD h sc;have Fj:∀n,sc.names.lookup n=some .cell→∃c,(cellsFrom (h.objs.size+1) sc.names []).lookup n=some c:=fun n hn=>cellsFrom_some sc.names _ n (mem_of_lookup hn);have Sw:∀n c,(cellsFrom (h.objs.size+1) sc.names []).lookup n=some c→sc.names.lookup n=some .cell:=fun n c hc=>mem_lookup ok.nd (dU _ _ n c (mem_of_lookup hc));have uN:∀n,sc.names.lookup n=some .free→∃c v,(bN sc env h.objs.size).cells.lookup n=some c∧env.cells.lookup n=some c∧c∈Mu∧h.IsCell c v:=fun n hn=>by
  have h0:(cellsFrom (h.objs.size+1) sc.names []).lookup n=none:=by
   cases e:(cellsFrom (h.objs.size+1) sc.names []).lookup n with
   |none=>rfl
   |some c=>have:=Sw n c e;rw [hn] at this;cases this
  obtain ⟨c,v,h1,h2,h3⟩:=F.cell n (ok.free n (mem_of_lookup hn));refine ⟨c,v,?_,h1,h2,h3⟩;rw [gf,h0];simp only;rw [gG _ _ _ ok.nd,if_pos hn,h1];rfl
 have qt:∀n c,(bN sc env h.objs.size).cells.lookup n=some c→((cellsFrom (h.objs.size+1) sc.names []).lookup n=some c∧h.objs.size<c)∨(env.cells.lookup n=some c∧c<h.objs.size):=fun n c hc=>by
  rw [gf] at hc;split at hc
  ·rename_i c' e;cases hc;exact .inl ⟨e,(CO.empty n c (mem_of_lookup e)).2⟩
  ·rename_i e;rw [gG _ _ _ ok.nd] at hc;split at hc
   ·rename_i hf;obtain ⟨c',v,h1,h2,h3⟩:=F.cell n (ok.free n (mem_of_lookup hf));rw [h1] at hc;cases hc;exact .inr ⟨h1,h3.lt⟩
   ·simp at hc
 refine ⟨ok.kind,F.glob,F.DZ,G.hold,G.ex,G.new,by simp [bN],⟨_,yU h sc⟩,fun n q=>?_,fun n n' c e1 e2=>?_,fun x sl e a q=>?_,F.inj,fun x a e=>List.mem_append.mpr (.inr (F.gU x a e)),F.dom,F.code⟩
 ·have:∃k',(dY sc env.scope).names.lookup n=some k'∧(k'=.cell∨k'=.free):=by
   rcases q with q|q
   ·exact ⟨_,q,.inl rfl⟩
   ·exact ⟨_,q,.inr rfl⟩
  obtain ⟨k',hk',hc⟩:=this;obtain ⟨k,hk,hkk⟩:=sO hk';have hcf:k=.cell∨k=.free:=by
   rcases hkk with rfl|⟨rfl,_⟩
   ·exact hc
   ·exact .inr rfl
  rcases hcf with rfl|rfl
  ·obtain ⟨c,e⟩:=Fj n hk;have hm:=CO.empty n c (mem_of_lookup e);refine ⟨c,none,by rw [gf,e],?_,hm.1⟩;exact List.mem_append.mpr (.inl (List.mem_cons_of_mem _ (List.mem_map.mpr ⟨_,mem_of_lookup e,rfl⟩)))
  ·obtain ⟨c,v,h1,h2,h3,h4⟩:=uN n hk;exact ⟨c,v,h1,List.mem_append.mpr (.inr h3),h4.keeps (mJ h sc)⟩
 ·rcases qt n c e1 with ⟨a1,a2⟩|⟨a1,a2⟩ <;>rcases qt n' c e2 with ⟨b1,b2⟩|⟨b1,b2⟩
  ·exact name_of_addr CO.apart (mem_of_lookup a1) (mem_of_lookup b1)
  ·exact absurd a2 (Nat.lt_asymm b2)
  ·exact absurd a2 (Nat.lt_asymm b2)
  ·exact F.apart n n' c a1 b1
 ·have hk:∃k',(dY sc env.scope).names.lookup (nm x)=some k'∧(k'=.local∨k'=.cell∨k'=.free):=by
   have ha:ET ((dY sc env.scope).names.lookup (nm x))=true:=a;rcases nS ha with z|z|z
   ·exact ⟨_,z,.inl rfl⟩
   ·exact ⟨_,z,.inr (.inl rfl)⟩
   ·exact ⟨_,z,.inr (.inr rfl)⟩
  obtain ⟨k',hk',hc⟩:=hk;obtain ⟨k,hk,hkk⟩:=sO hk';have hfree:k=.free:=by
   cases k with
   |«local»=>exact absurd (List.mem_map.mpr ⟨(nm x,NameKind.local),List.mem_filter.mpr ⟨PySem.mem_of_lookup hk,rfl⟩,rfl⟩) q
   |cell=>exact absurd (List.mem_map.mpr ⟨(nm x,NameKind.cell),List.mem_filter.mpr ⟨PySem.mem_of_lookup hk,rfl⟩,rfl⟩) q
   |free=>rfl
   |_=>rcases hkk with rfl|⟨z,_⟩ <;>simp_all
  subst hfree;have hout:=ok.free (nm x) (mem_of_lookup hk);have hacc:acc env.scope x=true:=by unfold acc knd;rcases hout with z|z <;>rw [z] <;>rfl
  obtain ⟨val,hh,sr⟩:=G.var x sl e hacc (by simp);refine ⟨val,?_,sr⟩;rcases hh with ⟨k1,_⟩|⟨_,c,l1,c1⟩
  ·exfalso;have k1:env.scope.names.lookup (nm x)=some .local:=k1;rcases hout with z|z <;>(rw [z] at k1;cases k1)
  ·obtain ⟨c',v,h1,h2,_,_⟩:=uN (nm x) hk;have:c=c':=by rw [h2] at l1;cases l1;rfl
   subst this;refine .inr ⟨?_,c,h1,c1⟩;show (dY sc env.scope).names.lookup (nm x)=some .cell∨_;rw [hk'];rcases hkk with rfl|⟨_,rfl,_⟩
   ·exact .inr hk'
   ·exact .inl rfl
end
end
section
section
variable {prog:Program} {w:World} {A:Around} {R:Result→Shared→Prop} {s:Shared}
noncomputable def CY (M:Model) (A:Around) (target:Expr) (it v acc:Value) (env:Env) (ifs:List Expr) (elt:Expr) (E:Value→Shared→Prop) (J:Shared→Prop) (s:Shared):Prop:= wpAny M A (letOwnedTupleGo target it v) (fun _ s₁'=>wpAny M A (assign target env v) (fun _ s₂=> wpAny M A (forIn ifs true fun c r=>if r=true then do let ok←isTrue c env (eval c env);pure (ForInStep.yield ok) else pure (ForInStep.yield r)) (fun ok s₃=> if ok=true then wpAny M A (eval elt env) (fun x s₄=>wpAny M A (call (.builtin "list.append") [acc,x]) (fun _ s₅=>J s₅) E s₄) E s₃ else J s₃) E s₂) E s₁') E s
theorem sP {target:Expr} {ifs:List Expr} {it acc:Value} (I:Nat→Shared→Prop)
  (turn:∀E n s,I n s→wpAny (model prog w) A (pyNext it) (fun r s₁=>match r with
   |none=>R (.ok .next) s₁
   |some v=>CY (model prog w) A target it v acc env ifs elt E (fun s=>∃m,m<n∧I m s) s₁) E s)
  (n:Nat) (h:I n s):
  codeAny (model prog w) A (.compLoop (.ListComp elt [⟨target,iter,ifs,0⟩] scope pos) 0 it acc env) R s:=by
 refine codeAny_loop rfl I (fun n s hI=>?_) n h;show wpAny _ A ((compTurn (.ListComp elt [⟨target,iter,ifs,0⟩] scope pos) 0 it acc env).onRaise (fun x=>do noteFrame x env;theTreesLotGoes x)) _ _ s;refine wpAny_noted ?_;rw [compTurn_list];refine wpAny_bind (wpAny_standAt (wpAny_bind (wpAny_mono (turn _ n s hI) (fun r s₁ h₁=>?_) fun _ _ h'=>h')));cases r with
 |none=>exact wpAny_pure h₁
 |some v=>
  refine wpAny_bind (wpAny_mono h₁ (fun _ s₁' h₁'=>?_) fun _ _ h'=>h');refine wpAny_bind (wpAny_mono h₁' (fun _ s₂ h₂=>wpAny_bind (wpAny_mono h₂ (fun ok s₃ h₃=>?_) fun _ _ h'=>h')) fun _ _ h'=>h');cases ok with
  |false=>exact wpAny_pure ⟨rfl,h₃⟩
  |true=> exact wpAny_bind (wpAny_bind (wpAny_mono h₃ (fun x s₄ h₄=>wpAny_bind (wpAny_mono h₄ (fun _ s₅ h₅=>wpAny_pure (wpAny_pure ⟨rfl,h₅⟩)) fun _ _ h'=>h')) fun _ _ h'=>h'))
end
theorem uO:∀{xs:List Nat} {vs:List V} {m m':ao},fq m xs vs=some m'→∀x,x∉xs→ah m' x=ah m x
 |[],_,_,_,h,_,_=>oi h fun _ h=>by cases h;rfl
 |y::ys,_,m,_,h,x,hx=>ob h fun q _ h=>ob h fun m1 h1 h=>by rw [uO h x fun q=>hx (List.mem_cons_of_mem _ q),(cX h1).1];exact aV m _ fun q=>hx (q▸List.mem_cons_self ..)
theorem uP (h:bQ m tg v=some m') (x:Nat) (hx:x∉aT tg):ah m' x=ah m x:=by
 cases tg with
 |one y=> rw [(cX h).1];exact aV _ _ fun q=>hx (List.mem_singleton.mpr q)
 |many xs=>exact ob h fun vs _ h=>uO h x hx
theorem ff {Ex:List Str}:∀{xs:List Nat} {n:Str},n∈CW Ex xs→n∈Ex∧∀x∈xs,nm x≠n
 |[],n,h=>⟨h,by simp⟩
 |x::xs,n,h=>by
  obtain ⟨h1,h2⟩:=ff (xs:=xs) (show n∈CW (Ex.filter (· !=nm x)) xs from h);obtain ⟨h3,h4⟩:=List.mem_filter.mp h1;refine ⟨h3,fun y hy=>?_⟩;rcases List.mem_cons.mp hy with rfl|hy
  ·exact fun q=>by simp [q] at h4
  ·exact h2 y hy
section
variable {X:Cx} {C:Calls} {n:Nat} {A:Around} {E:Value→Shared→Prop}
noncomputable def CZ (C:Calls) (m:ao) (tg:Tg) (ifs:Option PE) (elt:PE) (x:V):Option (Option V):= (bQ m tg x).bind fun m'=>(Bp C m' ifs).bind fun ok=>if ok then (ev C m' elt).map some else some none
theorem nW {g:V→Option (Option V)}:∀{xs:List V} {x:V} {r:List V},bK g (xs++[x])=some r→∃r0 o,bK g xs=some r0∧g x=some o∧r=r0++o.toList
 |[],_,_,h=>ob h fun o h1 h=>⟨[],o,rfl,h1,os (P:=fun r=>r=o.toList) h (List.append_nil _)⟩
 |_::xs,x,_,h=>ob h fun o h1 h=>om (P:=fun r=>∃r0 o,_=some r0∧g x=some o∧r=r0++o.toList) h fun r1 h2=>
  let ⟨r0,o2,h3,h4,e⟩:=nW h2
  ⟨o.toList++r0,o2,by rw [bK,h1,Option.bind_some,h3,Option.map_some],h4,by rw [e,List.append_assoc]⟩
theorem qu {g:V→Option (Option V)}:∀{xs:List V} {r:List V},bK g xs=some r→∀i,∃r',bK g (xs.take i)=some r'
 |_,_,_,0=>⟨[],rfl⟩
 |[],r,h,_+1=>⟨r,h⟩
 |_::xs,_,h,i+1=>ob h fun o h1 h=>om (P:=fun _=>∃r',_=some r') h fun r1 h2=>
  let ⟨r',h3⟩:=qu h2 i
  ⟨o.toList++r',by rw [List.take_succ_cons,bK,h1,Option.bind_some,h3,Option.map_some]⟩
theorem xq {r:List V} (h:bK g xs=some r) (i:Nat) (hi:i<xs.length):∃r0 o,bK g (xs.take i)=some r0∧g xs[i]=some o∧bK g (xs.take (i+1))=some (r0++o.toList):=by
 obtain ⟨r',h'⟩:=qu h (i+1);have e:xs.take (i+1)=xs.take i++[xs[i]]:=by rw [List.take_add_one,List.getElem?_eq_getElem hi];rfl
 rw [e] at h';obtain ⟨r0,o,h1,h2,rfl⟩:=nW h';exact ⟨r0,o,h1,h2,e▸h'⟩
theorem ko {g:V→Option (Option V)}:∀{xs r:List V},bK g xs=some r→r.length≤xs.length
 |[],r,h=>os (P:=fun r=>r.length≤0) h (Nat.le_refl _)
 |a::xs,r,h=>ob h fun o h1 h=>om (P:=fun r=>r.length≤xs.length+1) h fun r1 h2=>by rw [List.length_append,Nat.add_comm xs.length 1];exact Nat.add_le_add (by cases o <;>first|exact Nat.zero_le _|exact Nat.le_refl _) (ko h2)
theorem Fo {o:Option Expr} {Mf:Bool} {Q:Bool→Shared→Prop} (hif:∀p,oZ=some p→ji X C n p) (ok:AB n A) (F:FM X env m ow Mu [] s.heap)
  (mi:mO env.scope oZ o=true) (ht:Bp C m oZ=some Mf) (hQ:∀g3 gO,Kp s.heap g3→Q Mf {s with heap:=g3,toks:=gO}):
  wpAny (model X.prog X.w) A (forIn o.toList true fun c r=>if r=true then do let ok←isTrue c env (eval c env);pure (ForInStep.yield ok) else pure (ForInStep.yield r)) Q E s:=by
 cases oZ with
 |none=> refine i6 (P:=fun o:Option Expr=>wpAny _ A (forIn o.toList true fun c r=>if r=true then do let ok←isTrue c env (eval c env);pure (ForInStep.yield ok) else pure (ForInStep.yield r)) Q E s) mi (wpAny_tests_nil ?_);exact os (P:=fun b=>Q b s→Q true s) (show some true=some Mf from ht) (fun q=>q) (hQ s.heap s.toks fun _ _ e=>e)
 |some p=> exact uF (P:=fun o:Option Expr=>wpAny _ A (forIn o.toList true fun c r=>if r=true then do let ok←isTrue c env (eval c env);pure (ForInStep.yield ok) else pure (ForInStep.yield r)) Q E s) mi fun c mi=> wpAny_tests_one (hif p rfl env m ow Mu _ A E Q Mf c F ok mi ht fun g3 gO k3=>hQ g3 gO k3)
theorem Am {target:Expr} {o:Option Expr} {it v:Value} {x:V} {ov:Option V} {J:Shared→Prop} {ys:List Value} {r:List V}
  (hel:bL X C n kR) (hif:∀p,oZ=some p→ji X C n p) (ok:AB n A) (hgo:∀Q:Unit→Shared→Prop,Q () s→wpAny (model X.prog X.w) A (letOwnedTupleGo target it v) Q E s)
  (F:FM X cenv m ow Mu Ex s.heap) (Sx:∀cN∈Ex,cN=(".0":Str)∨∃x∈aT tg,nm x=cN) (Sy:∀x∈aT tg,nm x∈Ex)
  (mt:mw cenv.scope tg target=true) (me:mE cenv.scope kR elt=true) (mi:mO cenv.scope oZ o=true) (hv:CZ C m tg oZ kR x=some ov) (rv:RV X s.heap Mu x v)
  (Mg:D∈Mu) (Ks:cenv.locals≠D) (Z5:∀cN c,cenv.kindOf cN=some .cell∨cenv.kindOf cN=some .free→cenv.cells.lookup cN=some c→c≠D) (D0:∀x a,ow x=some a→a≠D)
  (hD:s.heap.PlainList D ys.toArray) (hyl:ys.length≤16777216) (rr:aE X s.heap Mu r ys)
  (hJ:∀g tk ys',(∀b o,¬chg cenv (aT tg) b→b≠D→s.heap.get? b=some o→g.get? b=some o)→FM X cenv m ow Mu Ex g→g.PlainList D ys'.toArray→aE X g Mu (r++ov.toList) ys'→J {s with heap:=g,toks:=tk}):
  CY (model X.prog X.w) A target it v (.ref D) cenv o.toList elt E J s:=by
 have Ku:∀b,chg cenv (aT tg) b→b∈Mu:=fun b hb=>hb.elim (fun e=>e▸F.eO) fun ⟨_,_,k1,k2⟩=>F.jG _ _ (.inl k1) k2;have C0:¬chg cenv (aT tg) D:=fun hb=>hb.elim (fun q=>Ks q.symm) fun ⟨_,_,k1,k2⟩=>Z5 _ _ (.inl k1) k2 rfl;refine hgo _ (ob hv fun m' hs h2=>ob h2 fun Mf ht h2=>?_);refine iH ok.1 F mt hs rv fun g2 lg hk2 F2=>?_;have Kv:FM X cenv m' ow Mu [] g2:=F2.less fun cN hn=>(Sx cN (ff hn).1).elim id fun ⟨x,hx,e⟩=>absurd e ((ff hn).2 x hx);have Ig:∀{g3:Heap},FM X cenv m' ow Mu [] g3→FM X cenv m ow Mu Ex g3:=fun G=>G.back (fun x hx=>(uP hs x fun q=>hx (Sy x q)).symm) F.dom;have UR:g2.PlainList D ys.toArray:=hD.at fun o e=>hk2 D o C0 e;have US:aE X g2 Mu r ys:=aE.keep (fun b o hb e=>hk2 b o (fun q=>hb (Ku b q)) e) _ _ rr;refine Fo (s:={s with heap:=g2,toks:=lg}) hif ok Kv mi ht fun g3 gO k3=>?_;cases Mf with
 |false=>exact hJ g3 gO ys (fun b o hb _ e=>k3 _ _ (hk2 b o hb e)) (Ig (Kv.kp k3)) (UR.at fun o e=>k3 _ _ e) (by cases h2;exact (List.append_nil r).symm▸US.kp k3)
 |true=>
  obtain ⟨y,hy,rfl⟩:=Option.map_eq_some_iff.mp h2;refine hel cenv m' ow Mu _ A _ _ y elt (Kv.kp k3) ok me hy fun val g4 Fp k4 r4=>?_;refine wpAny_list_append_plain ((UR.at fun o e=>k3 _ _ e).at fun o e=>k4 _ _ e) (fun g5 Xs Xu=>?_) (by rw [List.size_toArray,av];exact hyl);have Kw:∀b o,b∉[D]→g4.get? b=some o→g5.get? b=some o:=fun b o hb e=>(Xu.2 b fun q=>hb (List.mem_singleton.mpr q)).trans e;have ne:∀{b},b≠D→b∉[D]:=fun h q=>h (List.mem_singleton.mp q);refine hJ g5 Fp (ys++[val]) (fun b o hb hd e=>Kw b o (ne hd) (k4 _ _ (k3 _ _ (hk2 b o hb e)))) (Ig ?_) (by rw [List.push_toArray] at Xs;exact Xs)
   (aE.keep (fun b o hb e=>Kw b o (ne fun q=>hb (q▸Mg)) e) _ _ (aE.append ((US.kp k3).kp k4) (aE.one r4)))
  exact ((Kv.kp k3).kp k4).xo [D] Kw (fun b hb=>List.mem_singleton.mp hb▸Mg) (fun b hb=>by rw [List.mem_singleton.mp hb];obtain ⟨z,hz⟩:=Xs;exact ⟨_,hz⟩) (ne Ks) (fun cN c q l=>ne (Z5 cN c q l)) (fun x a e=>ne (D0 x a e))
inductive Ih (X:Cx) (cenv:Env) (m:ao) (ow:Nat→Option Addr) (Mu:List Addr) (Ex:List Str) (D:Addr) (St:Nat→Heap→Prop) (f:V→Option (Option V)) (xs:List V) (hB:Heap) (s:Shared):Nat→Shared→Prop
 |mk (i:Nat) (g:Heap) (tk:Nat) (ys:List Value) (r:List V) (hi:i≤xs.length) (F:FM X cenv m ow Mu Ex g) (k:Kp hB g) (hD:g.PlainList D ys.toArray) (hr:bK f (xs.take i)=some r) (rr:aE X g Mu r ys) (st:St i g):
  Ih X cenv m ow Mu Ex D St f xs hB s (xs.length+1-i) {s with heap:=g,toks:=tk}
theorem An {target:Expr} {o:Option Expr} {I:Addr} {P:Nat→Value→Prop} {out:List V} {hB:Heap}
  (hel:bL X C n kR) (hif:∀p,oZ=some p→ji X C n p) (ok:AB n A) (W:Walks X.prog X.w A I fp [I] xs.length P St) (hst:St 0 s.heap)
  (has:∀i g,St i g→∃o T,g.get? I=some o∧o.cls=.type T∧T∈["list_iterator","tuple_iterator","range_iterator"])
  (C1:∀i x v,xs[i]?=some x→P i v→RV X hB Mu x v) (hlen:xs.length≤16777216)
  (F:FM X cenv m ow Mu Ex s.heap) (Sx:∀cN∈Ex,cN=(".0":Str)∨∃x∈aT tg,nm x=cN) (Sy:∀x∈aT tg,nm x∈Ex)
  (mt:mw cenv.scope tg target=true) (me:mE cenv.scope kR elt=true)
  (mi:mO cenv.scope oZ o=true)
  (hv:bK (CZ C m tg oZ kR) xs=some out)
  (Xv:I∈Mu) (Mg:D∈Mu) (Sz:cenv.locals≠I) (Ks:cenv.locals≠D) (SA:I≠D)
  (Mh:∀cN c,cenv.kindOf cN=some .cell∨cenv.kindOf cN=some .free→cenv.cells.lookup cN=some c→c≠I∧c≠D) (hIo:∀x a,ow x=some a→a≠I∧a≠D)
  (hfp:∀b∈fp,¬chg cenv (aT tg) b∧b≠D) (Xw:Kp hB s.heap) (Fq:∀b o,hB.get? b=some o→¬chg cenv (aT tg) b∧b≠I∧b≠D)
  (hD:s.heap.PlainList D #[])
  (hR:∀h' tk ys,Kp hB h'→FM X cenv m ow Mu Ex h'∨True→(∃mp,h'.Ns cenv.locals mp)→h'.PlainList D ys.toArray→aE X h' Mu out ys→ys.length≤16777216→R (.ok .next) {s with heap:=h',toks:=tk}):
  codeAny (model X.prog X.w) A (.compLoop (.ListComp elt [⟨target,iter,o.toList,0⟩] scope pos) 0 (.ref I) (.ref D) cenv) R s:=by
 refine sP (Ih X cenv m ow Mu Ex D St (CZ C m tg oZ kR) xs hB s) ?_ (xs.length+1) (.mk 0 s.heap s.toks [] [] (Nat.zero_le _) F Xw hD rfl rfl hst);intro E' k s' hI;cases hI with|mk i g tk ys r hi Fg kB SD hr rr C2=>
 have ne:∀{b:Addr},b≠I→b∉[I]:=fun h q=>h (List.mem_singleton.mp q);have Xx:∀b∈[I],b∈Mu:=fun b hb=>List.mem_singleton.mp hb▸Xv;have hyl:ys.length≤i:=by rw [rr.length];exact Nat.le_trans (ko hr) (by rw [List.length_take];exact Nat.min_le_left _ _)
 by_cases hlt:i<xs.length
 ·refine W.item i _ _ _ hlt C2 fun v g1 qf hP mq hk1=>?_;obtain ⟨r0,ov,h1,h2,h3⟩:=xq hv i hlt;cases hr.symm.trans h1;obtain ⟨oI,T,SG,Xy,hT⟩:=has _ _ mq;have SH:Kp hB g1:=fun b o e=>hk1 b o (ne (Fq b o e).2.1) (kB b o e);refine Am (s:={s with heap:=g1,toks:=qf}) hel hif ok (fun Q=>Cz SG Xy hT) (Fg.xo [I] hk1 Xx (fun b hb=>by rw [List.mem_singleton.mp hb];exact ⟨_,SG⟩) (ne Sz) (fun cN c q l=>ne (Mh cN c q l).1) (fun x a e=>ne (hIo x a e).1))
   Sx Sy mt me mi h2 ((C1 i xs[i] v (List.getElem?_eq_getElem hlt) hP).kp SH) Mg Ks (fun cN c q l=>(Mh cN c q l).2) (fun x a e=>(hIo x a e).2) (SD.at fun o e=>hk1 D o (ne (Ne.symm SA)) e) (Nat.le_trans hyl (Nat.le_trans hi hlen))
   (aE.keep (fun b o hb e=>hk1 b o (fun q=>hb (Xx b q)) e) _ _ rr) fun g2 lg ys' hk2 F2 UR US=>?_
  exact ⟨xs.length+1-(i+1),Nat.sub_lt_sub_left (Nat.lt_succ_of_lt hlt) (Nat.lt_succ_self i),.mk (i+1) g2 lg ys' _ hlt F2 (fun b o e=>hk2 b o (Fq b o e).1 (Fq b o e).2.2 (SH b o e)) UR h3 US (W.frame _ _ _ mq fun b hb o e=>hk2 b o (hfp b hb).1 (hfp b hb).2 e)⟩
 ·cases Nat.le_antisymm hi (Nat.not_lt.mp hlt);refine W.done _ _ _ C2 fun g1 qf hk1=>?_;rw [List.take_length,hv] at hr;cases hr;obtain ⟨mp,hns⟩:=Fg.ns;exact hR g1 qf ys (fun b o e=>hk1 b o (ne (Fq b o e).2.1) (kB b o e)) (.inr trivial) ⟨mp,hns.at fun o e=>hk1 _ o (ne Sz) e⟩ (SD.at fun o e=>hk1 D o (ne (Ne.symm SA)) e)
   (aE.keep (fun b o hb e=>hk1 b o (fun q=>hb (Xx b q)) e) _ _ rr) (Nat.le_trans hyl hlen)
end
end
section
section
variable {X:Cx} {C:Calls} {n:Nat} {A:Around} {E:Value→Shared→Prop}
theorem yV {sc:Scope} (ok:sM env.scope sc tg) {b:Addr} (hb:chg (bN sc env h.objs.size) (aT tg) b):h.objs.size≤b:=by
 rcases hb with rfl|⟨x,hx,k1,k2⟩
 ·exact Nat.le_refl _
 ·have k1:(dY sc env.scope).names.lookup (nm x)=some .cell:=k1;obtain ⟨k,hk,hkk⟩:=sO k1;have ho:uu (sc.names.lookup (nm x))=true:=ok.Z4 x hx;rw [hk] at ho;have hc:k=.cell:=by
   rcases hkk with e|⟨e,_⟩
   ·exact e
   ·subst e;simp [uu] at ho
  subst hc;obtain ⟨c,e⟩:=cellsFrom_some sc.names (h.objs.size+1) (nm x) (PySem.mem_of_lookup hk);rw [gf,e] at k2;simp only [Option.some.injEq] at k2;subst k2;exact Nat.le_of_succ_le ((fD h sc).empty _ _ (PySem.mem_of_lookup e)).2
theorem nX {sc:Scope} {h₀:Heap} (F:FM X env m ow Mu [] h₀) (hle:h₀.objs.size≤h.objs.size) (ok:sM env.scope sc tg) {c:Addr}
  (hc:(bN sc env h.objs.size).cells.lookup cN=some c):@LT.lt Nat _ c h₀.objs.size∨@LT.lt Nat _ h.objs.size c:=by
 rw [gf] at hc;split at hc
 ·rename_i c' e;cases hc;exact .inr ((fD h sc).empty cN c (PySem.mem_of_lookup e)).2
 ·rw [gG _ _ _ ok.nd] at hc;split at hc
  ·rename_i hf;obtain ⟨c',v,h1,h2,h3⟩:=F.cell cN (ok.free cN (PySem.mem_of_lookup hf));rw [h1] at hc;cases hc;exact .inl h3.lt
  ·simp at hc
theorem C3 {sc:Scope} (SO:sM outer sc tg) (hn:cN∈uM sc):cN=(".0":Str)∨∃x∈aT tg,nm x=cN:=by obtain ⟨⟨a,k⟩,hm,rfl⟩:=List.mem_map.mp hn;obtain ⟨hm,hk⟩:=List.mem_filter.mp hm;exact SO.own a k hm ((fy hk).imp Option.some.inj Option.some.inj)
theorem C4 {sc:Scope} (SO:sM outer sc tg) (hx:x∈aT tg):nm x∈uM sc:=by have ho:=SO.Z4 x hx;obtain ⟨k,e⟩:∃k,knd sc x=some k:=(fy ho).elim (fun e=>⟨_,e⟩) fun e=>⟨_,e⟩;rw [e] at ho;exact List.mem_map.mpr ⟨(nm x,k),List.mem_filter.mpr ⟨PySem.mem_of_lookup e,ho⟩,rfl⟩
theorem qv {target:Expr} {o:Option Expr} {sc:Scope} {pos':Pos} {use:Option (Value→Sem Unit)}
  (hel:bL X C n kR) (hif:∀p,oZ=some p→ji X C n p) (hit:bL X C n zL) (ok:AB n A) (F:FM X env m ow Mu [] s.heap)
  (Xz:mE env.scope zL iter=true) (Kx:dD iter=false) (hsc:r9 env.scope sc tg=true) (mt:mw (dY sc env.scope) tg target=true) (me:mE (dY sc env.scope) kR elt=true)
  (mi:mO (dY sc env.scope) oZ o=true)
  (hv:ev C m (.comp kR tg zL oZ)=some v)
  (hp:∀D Ca h' tk Ft,(∀a∈Mu,a∈Ft)→Ca∈Ft→s.heap.get? Ca=none→Kp s.heap h'→(∃mp,h'.Ns Ca mp)→RV X h' Ft v (.ref D)→
   compPost (model X.prog X.w) A E use Q (.ref D) Ca (.ok .next) {s with heap:=h',toks:=tk}):
  wpAny (model X.prog X.w) A (comprehension (.ListComp elt [⟨target,iter,o.toList,0⟩] sc pos') sc env pos (newList []) false (eval iter env) use) Q E s:=by
 have SO:=sM.of hsc;refine ob hv fun vi ei hv=>ob hv fun xs ex hv=>?_;obtain ⟨out,eo,rfl⟩:=Option.map_eq_some_iff.mp hv;have hclos:=yT (env:=env) (sc:=sc) fun cN k hm hk=>by subst hk;obtain ⟨c,w,h1,_,_⟩:=F.cell cN (SO.free cN hm);exact ⟨c,h1⟩
 refine wpAny_comprehension_free (cl:=cQ env sc.names []) (g:=⟨target,iter,o.toList,0⟩) (gs:=[]) rfl (xd Kx) hclos SO.kind (fun p hp hl=>?_) ?_
 ·obtain ⟨a,k⟩:=p;have hl:k=.local:=hl;subst hl;exact mem_lookup SO.nd hp
 refine hit env m ow Mu s A E _ vi iter F ok Xz ei fun x h₁ tk₁ k₁ r₁=>?_;have F₁:=F.kp k₁;refine fO (s:={s with heap:=h₁,toks:=tk₁}) ok.1 F₁.ex ex r₁ fun h₂ k₂ ⟨T⟩=>?_;refine wpAny_newObj_type ?_;refine nU ?_;dsimp only;have hxs:=uq ex r₁;have sQ:h₁.objs.size<h₂.objs.size:=by obtain ⟨o,T,e,_⟩:=T.has 0 _ T.st;exact Heap.lt_size e
 have vN:(h₂.push {cls:=.type "list",data:=.seq ([]:List Value).toArray}).objs.size=h₂.objs.size+1:=Heap.size_push ..;have k₃:Kp h₂ (h₂.push {cls:=.type "list",data:=.seq ([]:List Value).toArray}):=aA;have D0:(h₂.push {cls:=.type "list",data:=.seq ([]:List Value).toArray}).get? h₂.objs.size=some {cls:=.type "list",data:=.seq ([]:List Value).toArray}:=Heap.get?_push_size _ rfl;generalize hh3:h₂.push {cls:=.type "list",data:=.seq ([]:List Value).toArray}=h₃ at vN k₃ D0⊢;have F₃:FM X env m ow ([h₁.objs.size,h₂.objs.size]++Mu) [] h₃:=F₁.grow (k₂.trans k₃) [h₁.objs.size,h₂.objs.size]
  (fun a ha=>by
   rcases List.mem_cons.mp ha with rfl|ha
   ·exact aM (Nat.le_refl _)
   ·rw [List.mem_singleton.mp ha];exact aM (Nat.le_of_lt sQ))
  (fun a ha=>by
   rcases List.mem_cons.mp ha with rfl|ha
   ·obtain ⟨o,T,e,_⟩:=T.has 0 _ T.st;exact ⟨o,k₃ _ _ e⟩
   ·rw [List.mem_singleton.mp ha];exact ⟨_,D0⟩)
 have F₄:=nV F₃ SO;have k₄:=mJ h₃ sc;have C5:∀a∈dG sc h₃.objs.size,h₁.get? a=none:=fun a ha=>by
  have:=kj (h:=h₃) (sc:=sc) a ha;cases e:h₁.get? a with
  |none=>rfl
  |some o=>rw [k₃ _ _ (k₂ _ _ e)] at this;cases this
 have Ii:∀a∈dG sc h₃.objs.size++([h₁.objs.size,h₂.objs.size]++Mu),a∈Mu∨h₁.get? a=none:=fun a ha=>by
  rcases List.mem_append.mp ha with q|q
  ·exact .inr (C5 a q)
  ·rcases List.mem_append.mp q with q|q
   ·rcases List.mem_cons.mp q with rfl|q
    ·exact .inr (aM (Nat.le_refl _))
    ·rw [List.mem_singleton.mp q];exact .inr (aM (Nat.le_of_lt sQ))
   ·exact .inl q
 have AU:∀(b:Nat) o,h₁.get? b=some o→@LT.lt Nat _ b h₁.objs.size:=fun b o e=>Heap.lt_size e;have lt:∀(b:Nat),b∈T.fp→@LT.lt Nat _ b h₂.objs.size:=T.lt;have C6:∀b:Nat,b<h₃.objs.size→¬chg (bN sc env h₃.objs.size) (aT tg) b:=fun b hb q=>absurd (yV SO q) (Nat.not_le.mpr hb);have place:∀cN c,(bN sc env h₃.objs.size).cells.lookup cN=some c→c≠h₁.objs.size∧c≠h₂.objs.size:=fun cN c hc=>by have q:=nX (h:=h₃) F₁ (D7 sQ vN) SO hc;constructor <;>intro e <;>rw [e] at q <;>omega
 have loop:codeAny (model X.prog X.w) A (.compLoop (.ListComp elt [⟨target,iter,o.toList,0⟩] sc pos') 0 (.ref h₁.objs.size) (.ref h₂.objs.size) (bN sc env h₃.objs.size))
   (compPost (model X.prog X.w) A E use Q (.ref h₂.objs.size) h₃.objs.size) {s with heap:=fC h₃ sc,toks:=tk₁}:=by
  refine An (kR:=kR) (oZ:=oZ) (tg:=tg) (xs:=xs) (out:=out) (hB:=h₁) (m:=m) (ow:=ow) (Mu:=dG sc h₃.objs.size++([h₁.objs.size,h₂.objs.size]++Mu)) (Ex:=uM sc) (fp:=T.fp) (P:=T.P) (St:=T.St)
   hel hif ok T.W (T.W.frame _ _ _ T.st fun b _ o e=>k₄ _ _ (k₃ _ _ e)) T.has (fun i x v hx hv=>RV.mu Ii _ _ (T.item i x v hx hv)) hxs F₄ ?_ ?_ mt me mi eo
   ?_ ?_ ?_ ?_ (Nat.ne_of_lt sQ) (fun cN c _ l=>place cN c l) (fun x a e=>?_) (fun b hb=>⟨C6 b ?_,?_⟩) ((k₂.trans k₃).trans k₄) (fun b o e=>⟨C6 b ?_,?_,?_⟩) ?_ ?_
  ·exact fun cN hn=>C3 SO hn
  ·exact fun x hx=>C4 SO hx
  ·exact mR (mL (List.mem_cons_self ..))
  ·exact mR (mL (List.mem_cons_of_mem _ (List.mem_cons_self ..)))
  ·show h₃.objs.size≠h₁.objs.size;exact ML sQ vN
  ·show h₃.objs.size≠h₂.objs.size;exact MM vN
  ·obtain ⟨o,e'⟩:=F₁.ex a (F₁.gU x a e);have:=AU a o e';constructor <;>intro q <;>rw [q] at this <;>omega
  ·have:=lt b hb;exact Nat.lt_of_lt_of_le this (MN vN)
  ·exact Nat.ne_of_lt (lt b hb)
  ·exact Nat.lt_of_lt_of_le (AU b o e) (D7 sQ vN)
  ·exact Nat.ne_of_lt (AU b o e)
  ·exact Nat.ne_of_lt (Nat.lt_trans (AU b o e) sQ)
  ·exact ⟨_,k₄ _ _ D0⟩
  ·intro h' tk ys kB _ hns hD hrr hyl;have hsub:∀a∈dG sc h₃.objs.size++(h₁.objs.size::Mu),a∈dG sc h₃.objs.size++([h₁.objs.size,h₂.objs.size]++Mu):=fun a ha=>by
    rcases List.mem_append.mp ha with q|q
    ·exact mL q
    ·rcases List.mem_cons.mp q with rfl|q
     ·exact mR (mL (List.mem_cons_self ..))
     ·exact mR (mR q)
   refine hp h₂.objs.size h₃.objs.size h' tk (dG sc h₃.objs.size++(h₁.objs.size::Mu)) (fun a ha=>mR (List.mem_cons_of_mem _ ha)) (mL (List.mem_cons_self ..)) ?_ (k₁.trans kB) hns ?_
   ·cases e:s.heap.get? h₃.objs.size with
    |none=>rfl
    |some o=>exact absurd (AU _ o (k₁ _ _ e)) (MO sQ vN)
   ·refine ⟨h₂.objs.size,ys,rfl,fun q=>?_,hD.isList,hyl,hrr.sub hsub⟩;rcases List.mem_append.mp q with q|q
    ·have:=kj (h:=h₃) (sc:=sc) _ q;rw [D0] at this;cases this
    ·rcases List.mem_cons.mp q with q|q
     ·exact absurd q (Nat.ne_of_gt sQ)
     ·obtain ⟨o,e⟩:=F₁.ex _ q;exact absurd (AU _ o e) (Hw sQ)
 exact codeAny_compStart_list loop (T.W.self 0 _ _ _ (T.W.frame _ _ _ T.st fun b _ o e=>k₄ _ _ (k₃ _ _ e)) loop)
theorem yW (hel:bL X C n kR) (hif:∀p,oZ=some p→ji X C n p) (hit:bL X C n zL):bL X C n (.comp kR tg zL oZ):=by intro env m ow Mu s A E Q v e F ok hm he p;refine nQ (P:=fun e=>wpAny _ A (eval e env) Q E s) hm fun a t i o sc pos m1 m2 m3 m4 m5 m6=>?_;show wpAny _ _ (comprehension _ _ _ _ _ false (eval i env)) _ _ _;refine qv hel hif hit ok F m1 m2 m3 m4 m5 m6 he fun D Ca h' tk Ft hs hC hn hk hns r=>?_;obtain ⟨mp,hns⟩:=hns;refine ⟨mp,hns,fun h'' Ao=>?_⟩;have hk2:∀b o,b≠Ca→h'.get? b=some o→h''.get? b=some o:=fun b o hb e=>(Ao.2 b hb).trans e;refine p _ _ tk (fun b o e=>hk2 b o (fun q=>by rw [q,hn] at e;cases e) (hk b o e)) ?_;exact RV.sub hs (RV.keep (fun b o hb e=>hk2 b o (fun q=>hb (q▸hC)) e) _ _ r)
end
end
section
structure Hy (X:Cx):Prop where
 sb:rQ X
 s1:∀C n x,bL X C n x→bL X C n (.fk x)
 tm:∀C n f x,fV X C n→bL X C n x→bL X C n (.gk f x)
section
variable {X:Cx} {C:Calls} {n:Nat} (G:Gn X) (H:Hy X) (HC:fV X C n)
theorem sR (h:∀m,ev C m pe=none):bL X C n pe:=by intro env m ow Mu s A E Q v e F ok hm he p;rw [h] at he;cases he
theorem cj (h:∀m,tr C m pe=none):ji X C n pe:=by intro env m ow Mu s A E Q v e F ok hm he p;rw [h] at he;cases he
include G H HC
mutual
theorem aG:∀pe:PE,bL X C n pe
 |.cn _=>Sp
 |.var _=>CT
 |.gl _=>Sq G
 |.bin _ l r=>CS H.sb (aG l) (aG r)
 |.not _=>sR fun _=>rfl
 |.neg x=>J6 (aG x)
 |.and l r=>Ka (aG l) (aG r)
 |.or l r=>Ss (aG l) (aG r)
 |.ite t a b=>J7 (dH t) (aG a) (aG b)
 |.cmp _ l r=>J8 G (aG l) (aG r)
 |.lst es=>Kc (dI es)
 |.tup es=>Kd (dI es)
 |.fk x=>H.s1 C n x (aG x)
 |.idx o i=>CU (aG o) (aG i)
 |.slc o lo hi st=>Kg (aG o) (xr lo) (xr hi) (xr st)
 |.call _ args=>yR G HC (dI args)
 |.ic _ [] _=>fun _ _ _ _ _ A E Q _ _ _ _ hm _ _=>lQ (P:=fun e=>wpAny _ A (eval e _) Q E _) hm fun _ xs _ _ _ _ _ mx _ hx=>bq (P:=fun xs:List Expr=>xs.isEmpty=false→_) mx (fun h=>tf h) hx
 |.ic _ (a::args) kws=>CV G HC (yP (aG a) (dI args)) (C7 kws)
 |.bi _ args=>Ie G (dI args)
 |.gk f x=>H.tm C n f x HC (aG x)
 |.bZ _ o args=>yS G (aG o) (dI args)
 |.comp elt _ it none=>yW (aG elt) (fun p h=>by cases h) (aG it)
 |.comp elt _ it (some c)=>yW (aG elt) (fun p h=>by cases h;exact dH c) (aG it)
 |.cR _=>Ai G
 |.cJ _=>sR fun _=>rfl
 |.aH _ i=>Aj (aG i)
 |.gm _ lo=>Ak (aG lo)
 |.bad=>sR fun _=>rfl
theorem dH:∀pe:PE,ji X C n pe
 |.not x=>Kh (dH x)
 |.and l r=>Km (dH l) (dH r)
 |.or l r=>Su (dH l) (dH r)
 |.ite t a b=>Kl (dH t) (dH a) (dH b)
 |.cmp _ l r=>Kn G (aG l) (aG r)
 |.var _=>Ko
 |.cJ _=>Al
 |.bin _ l r=>Kq (CS H.sb (aG l) (aG r))
 |.idx o i=>Kr (CU (aG o) (aG i))
 |.call _ args=>Fd (yR G HC (dI args))
 |.bi _ args=>Sv (Ie G (dI args))
 |.bZ _ o args=>Fe (yS G (aG o) (dI args))
 |.cn _=>cj fun _=>rfl
 |.gl _=>cj fun _=>rfl
 |.neg _=>cj fun _=>rfl
 |.lst _=>cj fun _=>rfl
 |.tup _=>cj fun _=>rfl
 |.fk _=>cj fun _=>rfl
 |.slc _ _ _ _=>cj fun _=>rfl
 |.ic _ _ _=>cj fun _=>rfl
 |.gk _ _=>cj fun _=>rfl
 |.comp _ _ _ _=>cj fun _=>rfl
 |.cR _=>cj fun _=>rfl
 |.aH _ _=>cj fun _=>rfl
 |.gm _ _=>cj fun _=>rfl
 |.bad=>cj fun _=>rfl
theorem dI:∀es:List PE,xg X C n es
 |[]=>Ke
 |a::r=>yP (aG a) (dI r)
theorem C7:∀ks:List (Nat×PE),So X C n ks
 |[]=>Kf
 |(_,a)::r=>E9 (aG a) (C7 r)
theorem xr:∀o:Option PE,Mc X C n o
 |none=>E7
 |some a=>E8 (aG a)
end
end
end
section
structure CP where
 h₁:Heap
 io:List Addr
 Mo:List Addr
structure XA (env:Env) (ow:Nat→Option Addr) (Mu:List Addr) (c:CP) (h:Heap):Prop where
 keep:∀b o,b∉c.io→c.h₁.get? b=some o→h.get? b=some o
 fresh:∀b,(b=env.locals∨(∃n,env.kindOf n=some .cell∧env.cells.lookup n=some b)∨∃x,ow x=some b)→c.h₁.get? b=none∨b∈c.io
 mo:∀a∈c.Mo,a∈Mu
 Ij:∀a∈c.Mo,(∃o,c.h₁.get? a=some o)∧a∉c.io
 Ky:∀a∈Mu,a∈c.io∨a∈c.Mo∨c.h₁.get? a=none
structure FS (X:Cx) (env:Env) (m:ao) (ow:Nat→Option Addr) (Mu:List Addr) (cs:List CP) (h:Heap):Prop extends FM X env m ow Mu [] h where
 cp:∀c∈cs,XA env ow Mu c h
noncomputable def Ext (m:ao) (ow:Nat→Option Addr) (m':ao) (lJ:Nat→Option Addr):Prop:= ∀x,ah m x≠none→ah m' x≠none∧∀xs,ah m' x=some (.own xs)→lJ x=ow x∧∃ys,ah m x=some (.own ys)
noncomputable def UT (X:Cx) (h:Heap) (Mu:List Addr):Fl→Flow→Prop
 |.next,f=>f=.next
 |.brk,f=>f=.brk
 |.cont,f=>f=.cont
 |.ret v,f=>∃val,f=.ret val∧RV X h Mu v val
noncomputable abbrev fR (X:Cx) (env:Env) (m:ao) (ow:Nat→Option Addr) (cs:List CP) (s:Shared) (fl:Fl) (m':ao) (Q:Flow→Shared→Prop):Prop:= ∀f lJ eL h' tk,FS X env m' lJ eL cs h'→Ext m ow m' lJ→UT X h' eL fl f→Q f {s with heap:=h',toks:=tk}
section
variable (X:Cx) (C:Calls) (n K:Nat)
noncomputable def mP (ps:PS):Prop:=∀(cs:List CP) (env:Env) (m:ao) (ow:Nat→Option Addr) (Mu:List Addr) (s:Shared) (A:Around) (E:Value→Shared→Prop) (Q:Flow→Shared→Prop) (fl:Fl) (m':ao) (st:Stmt),
 FS X env m ow Mu cs s.heap→AB n A→mS env.scope ps st=true→ex C K ps m=some (fl,m')→fR X env m ow cs s fl m' Q→wpAny (model X.prog X.w) A (exec st env) Q E s
noncomputable def vO (UU:List PS):Prop:=∀(cs:List CP) (env:Env) (m:ao) (ow:Nat→Option Addr) (Mu:List Addr) (s:Shared) (A:Around) (E:Value→Shared→Prop) (Q:Flow→Shared→Prop) (fl:Fl) (m':ao) (sts:List Stmt),
 FS X env m ow Mu cs s.heap→AB n A→qq env.scope UU sts=true→exs C K UU m=some (fl,m')→fR X env m ow cs s fl m' Q→wpAny (model X.prog X.w) A (execs sts env) Q E s
end
theorem Ext.refl (m:ao) (ow:Nat→Option Addr):Ext m ow m ow:=fun _ h=>⟨h,fun xs e=>⟨rfl,xs,e⟩⟩
theorem Ext.trans {HP:ao} {SI:Nat→Option Addr} (a:Ext m ow m' lJ) (b:Ext m' lJ HP SI):Ext m ow HP SI:=fun x h=>by obtain ⟨h1,h2⟩:=a x h;obtain ⟨h3,h4⟩:=b x h1;refine ⟨h3,fun xs e=>?_⟩;obtain ⟨e1,ys,e2⟩:=h4 xs e;obtain ⟨e3,e4⟩:=h2 ys e2;exact ⟨e1.trans e3,e4⟩
theorem Ext.jN (h:jN m x v=some m'):Ext m ow m' ow:=by
 obtain ⟨rfl,hx⟩:=cX h;intro y hy
 by_cases q:y=x
 ·subst q;rw [cV];exact ⟨by simp,fun xs e=>by cases e⟩
 ·rw [aV _ _ q];exact ⟨hy,fun xs e=>⟨rfl,xs,e⟩⟩
theorem Ext.fq:∀{xs:List Nat} {vs:List V} {m m':ao} {ow:Nat→Option Addr},fq m xs vs=some m'→Ext m ow m' ow
 |[],_,_,_,_,h=>oi h fun _ h=>os (P:=fun m'=>Ext _ _ m' _) h (Ext.refl _ _)
 |_::_,_,_,_,_,h=>ob h fun _ _ h=>ob h fun _ h1 h=>(Ext.jN h1).trans (Ext.fq h)
theorem Ext.bQ (h:bQ m tg v=some m'):Ext m ow m' ow:=by
 cases tg with
 |one x=>exact Ext.jN h
 |many xs=>exact ob h fun _ _ h=>Ext.fq h
theorem cS:∀(m:ao) (x:Nat),ah (cL m) x=(ah m x).map fun s=>match s with|.own xs=>Sl.fz (.lst xs)|s=>s
 |[],_=>rfl
 |(y,s)::r,x=>by
  have ih:=cS r x;show (if Nat.beq y x then some _ else ah (cL r) x)=(if Nat.beq y x then some s else ah r x).map _;cases Nat.beq y x
  ·exact ih
  ·cases s <;>rfl
section
variable {X:Cx} {C:Calls} {n K:Nat} {env:Env} {m m':ao} {ow:Nat→Option Addr} {Mu:List Addr} {h h':Heap} {cs:List CP}
theorem FS.kp (hk:Kp h h') (F:FS X env m ow Mu cs h):FS X env m ow Mu cs h':= {F.toFM.kp hk with cp:=fun c hc=>{F.cp c hc with keep:=fun b o hb e=>hk b o ((F.cp c hc).keep b o hb e)}}
theorem FS.fW (F:FS X env m ow Mu cs h):∃eL,FS X env (cL m) (fun _=>none) eL cs h∧∀a∈eL,a∈Mu:=by
 let own:Addr→Prop:=fun a=>∃x xs,ah m x=some (.own xs)∧acc env.scope x=true∧ow x=some a
 haveI dec:∀a,Decidable (¬own a):=fun a=>Classical.propDecidable _
 let eL:=List.filter (fun a=>decide (¬own a)) Mu
 have hin:∀a,a∈eL↔a∈Mu∧¬own a:=fun a=>by simp only [eL,List.mem_filter,decide_eq_true_eq]
 have SJ:∀a,own a→∃its,h.PlainList a its:=fun a ⟨x,xs,e1,e2,e3⟩=>by obtain ⟨val,_,ad,vs,e4,_,_,hp,_⟩:=F.var x _ e1 e2 (by simp);rw [e3] at e4;cases e4;exact ⟨_,hp⟩
 have hsub:∀a∈eL,a∈Mu:=fun a ha=>((hin a).mp ha).1;refine ⟨eL,?_,hsub⟩;obtain ⟨mp,hn⟩:=F.ns
 refine ⟨⟨F.kind,F.glob,F.DZ,F.hold,fun a ha=>F.ex a (hsub a ha),fun a ha=>F.new a (hsub a ha),?_,⟨mp,hn⟩,fun k q=>?_,F.apart,fun x sl e a q=>?_,fun x y a e=>(by cases e),fun x a e=>(by cases e),fun x sl e=>?_,F.code⟩,
  fun c hc=>⟨(F.cp c hc).keep,fun b q=>(F.cp c hc).fresh b ?_,fun a ha=>?_,(F.cp c hc).Ij,fun a ha=>(F.cp c hc).Ky a (hsub a ha)⟩⟩
 ·refine (hin _).mpr ⟨F.eO,fun q=>?_⟩;obtain ⟨its,hp⟩:=SJ _ q;exact jF hn its hp
 ·obtain ⟨c,v,h1,h2,h3⟩:=F.cell k q;refine ⟨c,v,h1,(hin _).mpr ⟨h2,fun q=>?_⟩,h3⟩;obtain ⟨its,hp⟩:=SJ _ q;exact gE h3 its hp
 ·rw [cS] at e;obtain ⟨Mi,e0,rfl⟩:=Option.map_eq_some_iff.mp e;obtain ⟨val,hh,r⟩:=F.var x Mi e0 a q;refine ⟨val,hh,?_⟩;cases Mi with
  |fz v=>exact RV.sub hsub r
  |own xs=> obtain ⟨ad,vs,e1,rfl,e3,hp,hz,rr⟩:=r;refine ⟨ad,vs,rfl,fun q=>?_,hp.isList,hz,rr.sub hsub⟩;exact ((hin ad).mp q).2 ⟨x,xs,e0,a,e1⟩
 ·rw [cS] at e;obtain ⟨Mi,e0,_⟩:=Option.map_eq_some_iff.mp e;exact F.dom x Mi e0
 ·rcases q with q|q|⟨x,q⟩
  ·exact .inl q
  ·exact .inr (.inl q)
  ·cases q
 ·refine (hin a).mpr ⟨(F.cp c hc).mo a ha,fun ⟨x,xs,_,_,e⟩=>?_⟩;obtain ⟨⟨o,ho⟩,hio⟩:=(F.cp c hc).Ij a ha;rcases (F.cp c hc).fresh a (.inr (.inr ⟨x,e⟩)) with q|q
  ·rw [ho] at q;cases q
  ·exact hio q
theorem Ext.fW (m:ao) (ow:Nat→Option Addr):Ext m ow (cL m) (fun _=>none):=fun x h=>by rw [cS];refine ⟨fun q=>h (by simpa using q),fun xs e=>?_⟩;obtain ⟨Mi,e0,e1⟩:=Option.map_eq_some_iff.mp e;cases Mi <;>cases e1
theorem qw (F:FS X env m ow Mu cs h) (he:lG C m pe=some (v,m')):∃lJ eL,FS X env m' lJ eL cs h∧Ext m ow m' lJ∧ev C m' pe=some v:=by
 unfold lG at he;cases hw:ev C m pe with
 |some w=> rw [hw] at he;cases he;exact ⟨ow,Mu,F,Ext.refl _ _,hw⟩
 |none=> rw [hw] at he;obtain ⟨w,hw,e1⟩:=Option.map_eq_some_iff.mp he;cases e1;obtain ⟨eL,F',_⟩:=F.fW;exact ⟨_,eL,F',Ext.fW _ _,hw⟩
theorem gp {E:Value→Shared→Prop} (C8:bL X C n pe) (F:FS X env m ow Mu cs s.heap) (ok:AB n A) (hm:mE env.scope pe e=true) (he:lG C m pe=some (v,m'))
  (p:∀val lJ eL h' tk,FS X env m' lJ eL cs h'→Ext m ow m' lJ→RV X h' eL v val→Q val {s with heap:=h',toks:=tk}):wpAny (model X.prog X.w) A (eval e env) Q E s:=by
 obtain ⟨lJ,eL,F',X',he⟩:=qw F he;exact C8 env m' lJ eL s A E Q v e F'.toFM ok hm he fun val h' tk hk r=>p val lJ eL h' tk (F'.kp hk) X' r
theorem FS.chg {xs:List Nat} (F:FS X env m ow Mu cs h) (F':FM X env m' ow Mu [] h') (hk:∀b o,¬chg env xs b→h.get? b=some o→h'.get? b=some o):FS X env m' ow Mu cs h':=
 {F' with
  cp:=fun c hc=>{F.cp c hc with
   keep:=fun b o hb e=>hk b o (fun q=>by
    have:c.h₁.get? b=none∨b∈c.io:=(F.cp c hc).fresh b (by
     rcases q with q|⟨x,_,k1,k2⟩
     ·exact .inl q
     ·exact .inr (.inl ⟨_,k1,k2⟩))
    rcases this with z|z
    ·rw [z] at e;cases e
    ·exact hb z) ((F.cp c hc).keep b o hb e)}}
end
end
section
section
variable {X:Cx} {C:Calls} {n K:Nat} {env:Env} {m m':ao} {ow:Nat→Option Addr} {Mu:List Addr} {Ex:List Str} {h₁ h h':Heap} {cs:List CP}
theorem FM.drop (W:List Addr) (F:FM X env m ow (W++Mu) Ex h) (F0:FM X env m' ow Mu Ex h₁) (hd:∀b∈W,b∉Mu) (hk:∀b o,b∉W→h.get? b=some o→h'.get? b=some o):FM X env m ow Mu Ex h':=
 have n:∀{b},b∈Mu→b∉W:=fun h q=>hd _ q h
 F.tr W hk (fun _=>mL) (fun _ h=>.inl (mR h)) (fun a ha=>let ⟨o,e⟩:=F.ex a (mR ha);⟨o,hk a o (n ha) e⟩) (fun _ h w=>Me h (fun q=>absurd q w) id) (n F0.eO) (fun k c q l=>n (F0.jG k c q l)) fun x a e=>n (F0.gU x a e)
theorem FS.put {E:Value→Shared→Prop} {Q:Flow→Shared→Prop} {w:V} {val:Value} (F:FS X env m ow Mu cs s.heap) (X1:Ext m₀ Cc m ow) (hb:bnd env.scope x=true)
  (hs:jN m x w=some m') (r:RV X s.heap Mu w val) (p:fR X env m₀ Cc cs s .next m' Q):wpAny (model X.prog X.w) A (storeName env (nm x) val) (fun _=>Q .next) E s:=
 kg F.toFM hb (cX hs).2 r fun h3 gO _ hbc cW F3=> p .next ow Mu h3 gO (F.chg (xs:=[x]) (by rw [(cX hs).1];exact F3) fun c o hc e=>cW c o (fun q=>hc (q▸kh hbc (List.mem_singleton.mpr rfl))) e) (X1.trans (Ext.jN hs)) rfl
theorem fR.at {Q:Flow→Shared→Prop} (p:fR X env m ow cs s fl m' Q) (g:Heap) (tk:Nat):fR X env m ow cs {s with heap:=g,toks:=tk} fl m' Q:=fun f lJ eL h' tk'=>p f lJ eL h' tk'
theorem sS {v:Expr} {t:Option Expr} {l:Nat} (h:iG v=false):swapsWith v t l env=pure false:=by cases v <;>first|rfl|exact tf h
theorem qx (EV:∀pe,bL X C n pe) {e:PE} {E:Value→Shared→Prop} {Q:Flow→Shared→Prop} {w:V} {v:Expr} {tp:Pos} (F:FS X env m ow Mu cs s.heap) (ok:AB n A) (X1:Ext m₀ Cc m ow)
  (hb:bnd env.scope x=true) (me:mE env.scope e v=true) (C8:ev C m e=some w) (hs:jN m x w=some m') (hsw:swapsWith v (some (.Name (nm x) tp)) pos.line env=pure false) (p:fR X env m₀ Cc cs s .next m' Q):
  wpAny (model X.prog X.w) A (exec (.Assign [.Name (nm x) tp] v pos) env) Q E s:=
 wpAny_Assign_Name (EV e env m ow Mu s A E _ w v F.toFM ok me C8 fun _ h2 lg k2 r2=>FS.put (s:={s with heap:=h2,toks:=lg}) (F.kp k2) X1 hb hs r2 (p.at h2 lg)) hsw
theorem C9 (EV:∀pe,bL X C n pe) (TR:∀pe,ji X C n pe) {E:Value→Shared→Prop} {Q:Flow→Shared→Prop} {w:V} {t i:Expr} {o:Option Expr} {sc:Scope} {tp lp:Pos} (F:FS X env m ow Mu cs s.heap) (ok:AB n A) (X1:Ext m₀ Cc m ow) (hb:bnd env.scope x=true)
  (m1':mE env.scope zL i=true) (Z6:dD i=false) (m3:r9 env.scope sc tg=true) (m4:mw (dY sc env.scope) tg t=true) (m5:mE (dY sc env.scope) kR elt=true) (m6:mO (dY sc env.scope) oZ o=true)
  (C8:ev C m (.comp kR tg zL oZ)=some w) (hs:jN m x w=some m') (hsw:swapsWith (.ListComp elt [⟨t,i,o.toList,0⟩] sc lp) (some (.Name (nm x) tp)) pos.line env=pure true) (p:fR X env m₀ Cc cs s .next m' Q):
  wpAny (model X.prog X.w) A (exec (.Assign [.Name (nm x) tp] (.ListComp elt [⟨t,i,o.toList,0⟩] sc lp) pos) env) Q E s:=by
 rw [exec_Assign_arm];refine wpAny_bind (wpAny_standAt ?_);rw [show swapsWithSole [.Name (nm x) tp] (.ListComp elt [⟨t,i,o.toList,0⟩] sc lp) pos.line env=pure true from hsw];refine wpAny_bind (wpAny_pure ?_);rw [if_pos rfl];refine wpAny_bind ?_;show wpAny _ _ (comprehension _ sc env _ (newList []) false (eval i env) (some fun v=>assignAll v ((assignEach [.Name (nm x) tp] env).map (·.2)))>>=fun _=>pure ()) _ _ _;refine wpAny_bind (qv (EV kR) (fun c _=>TR c) (EV zL) ok F.toFM m1' Z6 m3 m4 m5 m6 C8 fun D Ca h' tk Ft hs2 hC hn hk hns r=>?_);show wpAny _ _ (assign (.Name (nm x) tp) env (.ref D)) _ _ _;obtain ⟨mp,hns⟩:=hns;have one:∀{a},a∈[Ca]→a=Ca:=fun h=>List.mem_singleton.mp h;have G1:FM X env m ow ([Ca]++Mu) [] h':=F.toFM.grow hk [Ca] (fun a ha=>one ha▸hn) (fun a ha=>by rw [one ha];obtain ⟨o,_,_,ho,_⟩:=hns;exact ⟨o,ho⟩);have Z7:Ca∉Mu:=fun q=>by obtain ⟨o,e⟩:=F.ex Ca q;rw [hn] at e;cases e
 have r':RV X h' ([Ca]++Mu) w (.ref D):=RV.sub (fun a ha=>(List.mem_append.mp ha).elim (fun q=>one q▸hC) (hs2 a)) r;refine wpAny_assign_Name (kg (s:={s with heap:=h',toks:=tk}) G1 hb (cX hs).2 r' fun h3 gO b hbc cW F3=>?_);have hbC:Ca≠b:=fun q=>Z7 (q▸hbc.elim (fun e=>e▸F.eO) fun ⟨k,k1,_,k2⟩=>F.toFM.jG k b (.inl k1) k2);refine ⟨mp,hns.at fun o e=>cW Ca o hbC e,fun h4 Ao=>wpAny_pure (wpAny_pure ?_)⟩;have Z8:∀c o,c∉[Ca]→h3.get? c=some o→h4.get? c=some o:=fun c o hc e=>(Ao.2 c fun q=>hc (List.mem_singleton.mpr q)).trans e;have F4:FM X env (ak m x (.fz w)) ow Mu [] h4:=FM.drop [Ca] F3 F.toFM (fun b hb=>one hb▸Z7) Z8;refine p .next ow Mu h4 gO (F.chg (xs:=[x]) (by rw [(cX hs).1];exact F4) fun c o hc e=>?_) (X1.trans (Ext.jN hs)) rfl;exact Z8 c o (fun q=>by rw [one q,hn] at e;cases e) (cW c o (fun q=>hc (q▸kh hbc (List.mem_singleton.mpr rfl))) (hk c o e))
theorem Kz (EV:∀pe,bL X C n pe) (TR:∀pe,ji X C n pe) {e:PE}:mP X C n K (.asg x e):=by
 intro cs env m ow Mu s A E Q fl m' st F ok hm he p;refine z8 (P:=fun st=>wpAny _ A (exec st env) Q E s) hm fun tp v pos hb me hc=>ob he fun q hz he=>?_;obtain ⟨m2,hs,e2⟩:=Option.map_eq_some_iff.mp he;cases e2;obtain ⟨Fv,Fw,F1,X1,C8⟩:=qw F hz;refine bo hc (fun hc=>qx EV F1 ok X1 hb me C8 hs (sS (bn hc)) p) fun hc=>?_;refine J2 (P:=fun e=>mE env.scope e v=true→ev C q.2 e=some q.1→_) hc (fun kR tg zL oZ me C8=>?_) me C8;refine nQ (P:=fun v=>mE env.scope (.comp kR tg zL oZ) v=true→wpAny _ A (exec (.Assign [.Name (nm x) tp] v pos) env) Q E s) me (fun a t i o sc lp m1 m2 m3 m4 m5 m6 me=>?_) me;cases hsw:(env.blockKind==.function&&env.kindOf (nm x)==some .local&&tp.line==lp.line&&!(sc.names.any fun (k,kd)=>k==nm x&&(kd==.local||kd==.cell))) with
 |false=>exact qx EV F1 ok X1 hb me C8 hs (show (pure (env.blockKind==.function&&env.kindOf (nm x)==some .local&&tp.line==lp.line&&!(sc.names.any fun (k,kd)=>k==nm x&&(kd==.local||kd==.cell))):Sem Bool)=pure false by rw [hsw]) p
 |true=>exact C9 EV TR F1 ok X1 hb m1 m2 m3 m4 m5 m6 C8 hs (show (pure (env.blockKind==.function&&env.kindOf (nm x)==some .local&&tp.line==lp.line&&!(sc.names.any fun (k,kd)=>k==nm x&&(kd==.local||kd==.cell))):Sem Bool)=pure true by rw [hsw]) p
end
end
section
section
variable {X:Cx} {C:Calls} {n K:Nat} {env:Env} {m m':ao} {ow:Nat→Option Addr} {Mu:List Addr} {Ex:List Str} {h₁ h h':Heap} {cs:List CP}
theorem FM.SK (F:FM X env m ow Mu Ex h) (hx:ah m x=none) (ha:a∈Mu) (hf:∀y,ow y≠some a):FM X env m (fun y=>if y=x then some a else ow y) Mu Ex h:=
 {F with
  var:=fun y sl e q z=>by
   have hy:y≠x:=fun w=>by rw [w,hx] at e;cases e
   obtain ⟨v,p,r⟩:=F.var y sl e q z;refine ⟨v,p,?_⟩;show fP X h Mu (if y=x then some a else ow y) sl v;rw [if_neg hy];exact r
  inj:=fun y z b e1 e2=>by
   by_cases p:y=x <;>by_cases q:z=x
   ·rw [p,q]
   ·simp only [p,if_true,q,if_false,Option.some.injEq] at e1 e2;subst e1;exact absurd e2 (hf z)
   ·simp only [p,if_false,q,if_true,Option.some.injEq] at e1 e2;subst e2;exact absurd e1 (hf y)
   ·simp only [p,if_false,q] at e1 e2;exact F.inj y z b e1 e2
  gU:=fun y b e=>by
   by_cases p:y=x
   ·simp only [p,if_true,Option.some.injEq] at e;subst e;exact ha
   ·simp only [p,if_false] at e
    exact F.gU y b e}
theorem FS.own (F:FS X env m ow Mu cs h) (hx:ah m x=none) (ho:o.isFreed=false):FS X env m (fun y=>if y=x then some h.objs.size else ow y) ([h.objs.size]++Mu) cs (h.push o):=by
 have one:∀{a:Addr},a∈[h.objs.size]→a=h.objs.size:=fun h=>List.mem_singleton.mp h;have hlt:∀b∈Mu,b≠h.objs.size:=fun b hb q=>by obtain ⟨o,e⟩:=F.ex b hb;exact Nat.lt_irrefl _ (q▸Heap.lt_size e)
 have hnew:∀c∈cs,h.objs.size∈c.io∨c.h₁.get? h.objs.size=none:=fun c hc=>by
  by_cases hio:h.objs.size∈c.io
  ·exact .inl hio
  ·right;cases e:c.h₁.get? h.objs.size with
   |none=>rfl
   |some o=>exact absurd (Heap.lt_size ((F.cp c hc).keep _ o hio e)) (Nat.lt_irrefl _)
 have G:FM X env m ow ([h.objs.size]++Mu) [] (h.push o):=F.toFM.grow aA [h.objs.size] (fun a ha=>by rw [one ha];exact aM (Nat.le_refl _)) (fun a ha=>by rw [one ha];exact ⟨o,Heap.get?_push_size _ ho⟩);refine {G.SK (x:=x) hx (mL (List.mem_singleton.mpr rfl)) (fun y e=>hlt _ (F.gU y _ e) rfl) with cp:=fun c hc=>{keep:=fun b o hb e=>aA _ _ ((F.cp c hc).keep b o hb e),fresh:=fun b q=>?_,mo:=fun a ha=>mR ((F.cp c hc).mo a ha),Ij:=(F.cp c hc).Ij,Ky:=fun a ha=>?_}}
 ·rcases q with q|q|⟨y,q⟩
  ·exact (F.cp c hc).fresh b (.inl q)
  ·exact (F.cp c hc).fresh b (.inr (.inl q))
  ·by_cases w:y=x
   ·rw [if_pos w] at q;exact Option.some.inj q▸(hnew c hc).symm
   ·rw [if_neg w] at q;exact (F.cp c hc).fresh b (.inr (.inr ⟨y,q⟩))
 ·rcases List.mem_append.mp ha with q|q
  ·exact one q▸(hnew c hc).imp id .inr
  ·exact (F.cp c hc).Ky a q
theorem Aq (ES:∀es,xg X C n es) {es:List PE}:mP X C n K (.bE x es):=by
 intro cs env m ow Mu s A E Q fl m' st F ok hm he p;refine sE (P:=fun st=>wpAny _ A (exec st env) Q E s) hm fun tp xs lp pos hb me=>ob he fun vs Ag he=>oi he fun hc he=>ba hc fun hz hx=>?_;have hx:ah m x=none:=Option.isNone_iff_eq_none.mp hx;cases he;refine wpAny_Assign_Name (wpAny_List (ES es env m ow Mu s A E _ vs xs _ F.toFM ok me Ag fun vals h2 lg k2 r2=>?_)) rfl;have hz2:vals.length≤16777216:=by rw [r2.length];exact bH hz
 refine ⟨by rw [av];exact hz2,?_⟩;have F2:=(F.kp k2).own hx (o:={cls:=.type "list",data:=.seq vals.toArray}) rfl;refine uI (s:={s with heap:=h2.push {cls:=.type "list",data:=.seq vals.toArray},toks:=lg}) (sl:=.own vs) F2.toFM hb ?_ fun h3 gO b hbc cW F3=>?_
 ·refine ⟨h2.objs.size,vals,if_pos rfl,rfl,mL (List.mem_singleton.mpr rfl),⟨0,Heap.get?_push_size _ rfl⟩,hz2,?_⟩;exact aE.kp aA (aE.mu (fun a ha=>(List.mem_append.mp ha).elim (fun q=>.inr (by rw [List.mem_singleton.mp q];exact aM (Nat.le_refl _))) .inl) _ _ r2)
 ·refine p .next _ _ h3 gO (F2.chg (xs:=[x]) F3 fun c o hc e=>cW c o (fun q=>hc (q▸kh hbc (List.mem_singleton.mpr rfl))) e) (fun y hy=>?_) rfl;have hyx:y≠x:=fun q=>hy (q▸hx);rw [aV _ _ hyx];exact ⟨hy,fun zs e=>⟨if_neg hyx,zs,e⟩⟩
theorem Fy {v:Expr} {ts:List Expr} {tp:Pos} (h:(wU v).isNone=true):swappedStores [.Tuple ts i tp] v env=pure none:=by cases v <;>first|rfl|exact nf h
theorem Fz (EV:∀pe,bL X C n pe) {xs:List Nat} {e:PE}:mP X C n K (.l6 xs e):=by intro cs env m ow Mu s A E Q fl m' st F ok hm he p;refine wX (P:=fun st=>wpAny _ A (exec st env) Q E s) hm fun ts i tp v pos mt me XC SM=>ob he fun q hz he=>ob he fun vs hvs he=>?_;obtain ⟨m2,hs,e2⟩:=Option.map_eq_some_iff.mp he;cases e2;refine wpAny_Assign_stores (gp (EV e) F ok me hz fun val Fv Fw h2 lg F1 X1 r=>?_) (sS (t:=some (.Tuple ts i tp)) (l:=pos.line) (env:=env) SM) (Fy XC);show wpAny _ _ (assign (.Tuple ts i tp) env val) _ _ _;refine iH (s:={s with heap:=h2,toks:=lg}) ok.1 F1.toFM mt (show (DW q.1).bind _=_ by rw [hvs];exact hs) r fun h3 gO hk F3=>?_;exact p .next Fv Fw h3 gO (F1.chg (xs:=xs) (F3.less fun k hk=>absurd (ff hk).1 List.not_mem_nil) hk) (X1.trans (Ext.fq hs)) rfl
theorem yX {sc:Scope} (hb:bnd sc x=true):acc sc x=true:=ba hb fun hk _=>by unfold acc;rcases fy hk with q|q <;>rw [q] <;>rfl
theorem KA (EV:∀pe,bL X C n pe) {op:Op} {e:PE}:mP X C n K (.aug x op e):=by
 intro cs env m ow Mu s A E Q fl m' st F ok hm he p;refine z9 (P:=fun st=>wpAny _ A (exec st env) Q E s) hm fun tp v pos hb hcd mop me=>ob he fun a ea he=>ob he fun b eb he=>ob he fun r er he=>oi he fun his he=>?_;obtain ⟨m2,hs,e2⟩:=Option.map_eq_some_iff.mp he;cases e2;cases op <;>first|exact nf mop|skip
 refine wpAny_AugAssign_Name (yN F.toFM (Ah ea) (yX hb) (beq_eq_false_iff_ne.mpr hcd) fun va ra=>?_);refine EV e env m ow Mu _ A E _ b v F.toFM ok me eb fun vb h2 lg k2 rb=>?_;have fin:∀{val:Value} {tk:Nat},RV X h2 Mu r val→wpAny (model X.prog X.w) A (storeName env (nm x) val) (fun _=>Q .next) E {s with heap:=h2,toks:=tk}:=fun {val tk} rr=> FS.put (s:={s with heap:=h2,toks:=tk}) (F.kp k2) (Ext.refl _ _) hb hs rr (p.at h2 tk);have ra:RV X h2 Mu a va:=RV.kp k2 ra;refine yG (P:=fun a b r=>RV X h2 Mu a va→RV X h2 Mu b vb→Rm r=true→(∀{val:Value} {tk:Nat},RV X h2 Mu r val→wpAny (model X.prog X.w) A (storeName env (nm x) val) (fun _=>Q .next) E {s with heap:=h2,toks:=tk})→_) er
  (fun i j ra rb _ fin=>?_) (fun i j hz ra rb _ fin=>?_) (fun _ _ _ _ _ h _=>nf h) ra rb his fin
 ·exact ra.eY fun t=>rb.eY fun u=>AutoIntOps.iadd_0 (fin ⟨_,rfl⟩)
 ·refine ra.gT fun t _=>rb.gT fun u _=>PyProof.Rows.iadd_str (fun t' tk=>?_) (by rw [str_len,str_len,av];exact bH hz);rw [mG];exact fin ⟨t',rfl,by rw [List.length_append];exact bH hz⟩
end
end
section
section
variable {X:Cx} {C:Calls} {n K:Nat} {env:Env} {m m':ao} {ow:Nat→Option Addr} {Mu:List Addr} {Ex:List Str} {h₁ h h':Heap} {cs:List CP}
theorem sU (f:Array Value→Array Value) (its:Array Value) (n:Nat):∃n',Obj.mapSeq f {cls:=.type "list",data:=.seq its n}={cls:=.type "list",data:=.seq (f its) n'}:=by simp only [Obj.mapSeq];exact ⟨_,rfl⟩
theorem qy (f:Array Value→Array Value) (x:h.PlainList l its):(h.update l (Obj.mapSeq f)).PlainList l (f its):=by obtain ⟨k,hk⟩:=x;obtain ⟨k',e⟩:=sU f its k;exact ⟨k',by rw [Heap.get?_update_self _ hk (by rw [e];rfl),e]⟩
theorem FM.mQ (F:FM X env m ow Mu Ex h) (hx:ah m x=some (.own xs)) (ha:ow x=some a) (hl:∃its,h.PlainList a its)
  (hk:∀b o,b≠a→h.get? b=some o→h'.get? b=some o) (hp:h'.PlainList a vs'.toArray) (hz:vs'.length≤16777216) (r:aE X h' Mu xs' vs'):FM X env (ak m x (.own xs')) ow Mu Ex h':=by
 have D3:=F.gU x a ha;obtain ⟨its,hl⟩:=hl;obtain ⟨mp,hn⟩:=F.ns;have hal:env.locals≠a:=fun q=>jF hn its (q▸hl);have hac:∀k c,env.kindOf k=some .cell∨env.kindOf k=some .free→env.cells.lookup k=some c→c≠a:=fun k c q l z=>by obtain ⟨c',v,h1,h2,h3⟩:=F.cell k q;rw [l] at h1;cases h1;exact gE h3 its (z▸hl)
 have Z9:R5 Mu h h':=fun b o hb e=>hk b o (fun q=>hb (q▸D3)) e;refine ⟨F.kind,F.glob,F.DZ,fun b o e=>hk b o (fun q=>by rw [q,F.new a D3] at e;cases e) (F.hold b o e),fun b hb=>?_,F.new,F.eO,⟨mp,hn.at fun o e=>hk _ o hal e⟩,fun k q=>?_,F.apart,fun y sl e q z=>?_,F.inj,F.gU,fun y sl e=>?_,F.code⟩
 ·by_cases q:b=a
  ·obtain ⟨k,hk'⟩:=hp;exact ⟨_,q▸hk'⟩
  ·obtain ⟨o,e⟩:=F.ex b hb;exact ⟨o,hk b o q e⟩
 ·obtain ⟨c,v,h1,h2,o,ho,hd⟩:=F.cell k q;exact ⟨c,v,h1,h2,o,hk c o (hac k c q h1) ho,hd⟩
 ·have hold:∀{val:Value},Holds env h (nm y) val→Holds env h' (nm y) val:=fun {val} p=>by
   rcases p with ⟨k1,mp,n1,e1⟩|⟨k1,c,l1,o,ho,hd⟩
   ·exact .inl ⟨k1,mp,n1.at fun o ho=>hk _ o hal ho,e1⟩
   ·exact .inr ⟨k1,c,l1,o,hk c o (hac _ c k1 l1) ho,hd⟩
  by_cases w:y=x
  ·subst w;rw [cV] at e;cases e;obtain ⟨val,p,ad,vs,e1,e2,e3,_⟩:=F.var y _ hx q z;rw [ha] at e1;cases e1;exact ⟨val,hold p,a,vs',ha,e2,D3,hp,hz,r⟩
  ·rw [aV _ _ w] at e;obtain ⟨val,p,r'⟩:=F.var y sl e q z;refine ⟨val,hold p,?_⟩;cases sl with
   |fz v=>exact RV.keep Z9 _ _ r'
   |own ys=> obtain ⟨ad,vs,e1,e2,e3,e4,e5,e6⟩:=r';exact ⟨ad,vs,e1,e2,e3,e4.at fun o ho=>hk _ _ (fun q=>w (F.inj y x a (q▸e1) ha)) ho,e5,aE.keep Z9 _ _ e6⟩
 ·by_cases w:y=x
  ·subst w;exact F.dom y _ hx
  ·rw [aV _ _ w] at e;exact F.dom y sl e
theorem FS.mQ (F:FS X env m ow Mu cs h) (hx:ah m x=some (.own xs)) (ha:ow x=some a) (hl:∃its,h.PlainList a its)
  (hk:∀b o,b≠a→h.get? b=some o→h'.get? b=some o) (hp:h'.PlainList a vs'.toArray) (hz:vs'.length≤16777216) (r:aE X h' Mu xs' vs'):FS X env (ak m x (.own xs')) ow Mu cs h':=
 {F.toFM.mQ hx ha hl hk hp hz r with
  cp:=fun c hc=>{F.cp c hc with
   keep:=fun b o hb e=>hk b o (fun q=>by
    rcases (F.cp c hc).fresh a (.inr (.inr ⟨x,ha⟩)) with z|z
    ·rw [q,z] at e;cases e
    ·exact hb (q▸z)) ((F.cp c hc).keep b o hb e)}}
theorem FS.sV (F:FS X env m ow Mu cs h) (hx:ah m x=some (.own xs)) (ha:ow x=some a) (hl:∃its,h.PlainList a its)
  (hk:∀b o,b≠a→h.get? b=some o→h'.get? b=some o) (hp:h'.PlainList a vs'.toArray) (hz:vs'.length≤16777216) (r:aE X h Mu xs' vs'):FS X env (ak m x (.own xs')) ow Mu cs h':=
 F.mQ hx ha hl hk hp hz (aE.keep (fun b o hb e=>hk b o (fun q=>hb (q▸F.gU x a ha)) e) _ _ r)
theorem Ext.own (hx:ah m x=some (.own xs)):Ext m ow (ak m x (.own xs')) ow:=fun y hy=>by
 by_cases w:y=x
 ·subst w;rw [cV];exact ⟨by simp,fun zs e=>⟨rfl,xs,hx⟩⟩
 ·rw [aV _ _ w];exact ⟨hy,fun zs e=>⟨rfl,zs,e⟩⟩
theorem KC (F:FM X env m ow Mu [] h) (hx:ah m x=some (.own xs)) (hacc:acc env.scope x=true):
  ∃a vs,ow x=some a∧a∈Mu∧h.PlainList a vs.toArray∧vs.length≤16777216∧aE X h Mu xs vs:=by
 obtain ⟨val,_,a,vs,e1,_,e3,e4,e5,e6⟩:=F.var x _ hx hacc (by simp);exact ⟨a,vs,e1,e3,e4,e5,e6⟩
theorem As {sc:Scope} {o:Expr} (h:eg sc x o=true):(∃pos,o=.Name (nm x) pos)∧acc sc x=true:=by exact j9 (P:=fun o=>(∃pos,o=.Name (nm x) pos)∧acc sc x=true) h fun p _ _ h=>⟨⟨p,rfl⟩,h⟩
theorem Dc {pos:Pos}:∀{es:List Expr},(∀a∈es,dg a=false)→(backTo pos (starEach es env)).any (·.1)=false
 |[],_=>rfl
 |e::es,h=>by rw [eH (h e (List.mem_cons_self ..)),List.any_cons,Dc fun a ha=>h a (List.mem_cons_of_mem _ ha)];rfl
theorem nY {E:Value→Shared→Prop} {o:Expr} {name:Str} {id:String} {apos:Pos} {args:List Expr} (F:FM X env m ow Mu [] s.heap) (hm:eg env.scope x o=true) (hx:ah m x=some (.own xs))
  (hline:(apos.endLine==pos.line)=true) (hargs:∀a∈args,dg a=false) (hlen:args.length≤20) (slot:Slot "list" name id) (hty:typeOf (.builtin id)=pure (.type "method_descriptor"))
  (p:∀a vs,ow x=some a→a∈Mu→s.heap.PlainList a vs.toArray→vs.length≤16777216→aE X s.heap Mu xs vs→wpAny (model X.prog X.w) A (callWith pos (.builtin id) [.ref a] (backTo pos (starEach args env)) []) Q E s):
  wpAny (model X.prog X.w) A (eval (.Call (.Attribute o name apos) args [] pos) env) Q E s:=by
 obtain ⟨⟨np,rfl⟩,hacc⟩:=As hm;refine wpAny_Call_method rfl (few (Dc hargs) hlen) hline PySem.F.plainAttrs_list slot hty (fQ F hm hx fun val r=>?_)
 ·obtain ⟨a,vs,e1,rfl,e3,e4,e5,e6⟩:=r;refine ⟨e4.isList.typeIs,fun b hb=>?_,p a vs e1 e3 e4 e5 e6⟩;cases hb;obtain ⟨k,hk⟩:=e4;exact ⟨_,hk,rfl⟩
end
end
section
section
variable {X:Cx} {C:Calls} {n K:Nat} {cs:List CP}
theorem nZ {E:Value→Shared→Prop} {Q:Flow→Shared→Prop} (hk:env.scope.kind=.function) (hc:iG e=false) (h:wpAny (model X.prog X.w) A (eval e env) (fun _=>Q .next) E s):
  wpAny (model X.prog X.w) A (exec (.Expr e pos) env) Q E s:=by
 refine wpAny_Expr_any h ?_ ?_
 ·unfold interactive;rw [hk];rfl
 ·exact sS hc
theorem KD (EV:∀pe,bL X C n pe) {e:PE}:mP X C n K (.app x e):=by intro cs env m ow Mu s A E Q fl m' st F ok hm he p;refine Aa (P:=fun st=>wpAny _ A (exec st env) Q E s) hm fun o a ap pos ep hline mv me UW=>ob he fun xs zK he=>ob he fun w ew he=>oi he fun hz he=>?_;cases he;have hx:=bM zK;refine nZ F.kind rfl (nY F.toFM mv hx hline (fun b hb=>List.mem_singleton.mp hb▸UW) (Nat.le_add_left 1 19) slot_list_append PySem.F.type_list_append fun ad vs ha D3 hp hz2 rr=>?_);rw [eH UW];refine Calls.callWith_builtin rfl (evalArgs_plain (spliced_cons (EV e env m ow Mu s A E _ w a F.toFM ok me ew fun val h2 lg k2 r2=>spliced_nil ?_)));have hz:vs.length+1≤16777216:=rr.length▸bH hz;refine wpAny_list_append_plain (hp.at fun o e=>k2 _ _ e) (fun h3 hp3 Mj=>?_) (by rw [List.size_toArray,av];exact Nat.le_of_succ_le hz);rw [List.push_toArray] at hp3;exact p .next ow Mu h3 lg ((F.kp k2).sV (vs':=vs++[val]) hx ha ⟨_,hp.at fun o e=>k2 _ _ e⟩ (fun b o hb e=>(Mj.2 b hb).trans e) hp3 (by rw [List.length_append];exact hz) (aE.append (rr.kp k2) (aE.one r2))) (Ext.own hx) rfl
theorem Dd {E:Value→Shared→Prop} {v:Value} (hp:s.heap.PlainList a vs.toArray) (hz:vs.length≤16777216) (hv:vs.getLast?=some v)
  (p:∀h',h'.PlainList a vs.dropLast.toArray→(∀b o,b≠a→s.heap.get? b=some o→h'.get? b=some o)→Q v {s with heap:=h'}):wpAny (model X.prog X.w) A (call (.builtin "list.pop") [.ref a]) Q E s:=by
 obtain ⟨k,hk⟩:=hp;have SN:vs.toArray[vs.toArray.size-1]?=some v:=by rw [List.getLast?_eq_getElem?] at hv;simpa using hv
 refine call_meets PySem.F.slot_list_pop ⟨_,hk,rfl⟩ PySem.F.entry_list_pop (PySem.F.args_list_pop_1 _) (MeetsSeq.list_pop_last a vs.toArray k v SN (by simp only [List.size_toArray,av];exact hz)) ⟨hk,?_⟩;refine p _ ?_ fun b o hb e=>(Heap.get?_update_other _ _ (Ne.symm hb)).trans e;have:=qy (fun xs=>xs.eraseIdxIfInBounds (vs.toArray.size-1)) ⟨k,hk⟩;have e:vs.toArray.eraseIdxIfInBounds (vs.toArray.size-1)=vs.dropLast.toArray:=by
  apply Array.toList_inj.mp;cases vs with
  |nil=>simp at hv
  |cons a r=> simp only [List.size_toArray,List.length_cons,Nat.add_sub_cancel];unfold Array.eraseIdxIfInBounds;rw [dif_pos (by simp)];simp [List.dropLast_eq_take,List.eraseIdx_eq_take_drop_succ]
 rw [←e];exact this
theorem aE.last:∀{xs:List V} {vs:List Value} {x:V},aE X h Mu xs vs→xs.getLast?=some x→∃v,vs.getLast?=some v∧RV X h Mu x v∧aE X h Mu xs.dropLast vs.dropLast:=by intro xs vs x r hx;have hl:=r.length;rw [List.getLast?_eq_getElem?] at hx;obtain ⟨v,hv,rv⟩:=r.get hx;refine ⟨v,by rw [List.getLast?_eq_getElem?,hl];exact hv,rv,?_⟩;rw [List.dropLast_eq_take,List.dropLast_eq_take,hl];exact r.take _
theorem lR (h:vs.length≤16777216):vs.dropLast.length≤16777216:=by rw [List.length_dropLast];exact Nat.le_trans (Nat.sub_le _ _) h
theorem FA:mP X C n K (.zA x):=by
 intro cs env m ow Mu s A E Q fl m' st F ok hm he p;refine wY (P:=fun st=>wpAny _ A (exec st env) Q E s) hm fun o ap pos ep hline mv=>ob he fun xs zK he=>oi he fun hne he=>?_;cases he;have hx:=bM zK;refine nZ F.kind rfl (nY F.toFM mv hx hline (fun _ h=>nomatch h) (by decide) PySem.F.slot_list_pop PySem.F.type_list_pop fun ad vs ha D3 hp hz2 rr=>?_);refine Calls.callWith_builtin rfl (evalArgs_nil3 ?_);obtain ⟨y,hy⟩:∃y,xs.getLast?=some y:=by
  cases xs with
  |nil=>exact nf hne
  |cons a r=>exact ⟨_,List.getLast?_eq_some_getLast (List.cons_ne_nil _ _)⟩
 obtain ⟨v,hv,rv,rd⟩:=rr.last hy;exact Dd hp hz2 hv fun h3 hp3 Mj=>p .next ow Mu h3 s.toks (F.sV (vs':=vs.dropLast) hx ha ⟨_,hp⟩ Mj hp3 (lR hz2) rd) (Ext.own hx) rfl
theorem De:mP X C n K (.lE y x):=by intro cs env m ow Mu s A E Q fl m' st F ok hm he p;refine uH (P:=fun st=>wpAny _ A (exec st env) Q E s) hm fun tp o ap pos pp hline hb mv=>ob he fun xs zK he=>ob he fun w hw he=>?_;obtain ⟨m2,hs,e2⟩:=Option.map_eq_some_iff.mp he;cases e2;have hx:=bM zK;refine wpAny_Assign_Name (nY F.toFM mv hx hline (fun _ h=>nomatch h) (by decide) PySem.F.slot_list_pop PySem.F.type_list_pop fun ad vs ha D3 hp hz2 rr=>?_) rfl;refine Calls.callWith_builtin rfl (evalArgs_nil3 ?_);obtain ⟨v,hv,rv,rd⟩:=rr.last hw;refine Dd hp hz2 hv fun h3 hp3 Mj=>?_;exact FS.put (s:={s with heap:=h3}) (F.sV (vs':=vs.dropLast) hx ha ⟨_,hp⟩ Mj hp3 (lR hz2) rd) (Ext.own hx) hb hs (RV.keep (fun b o hb e=>Mj b o (fun q=>hb (q▸D3)) e) _ _ rv) (p.at h3 s.toks)
theorem set_plain {E:Value→Shared→Prop} {Q:Unit→Shared→Prop} {k:Int} {t:Tok} {v:Value} (hl:s.heap.PlainList l vs.toArray) (h0:0≤k) (hn:k<vs.length) (hz:vs.length≤16777216)
  (p:∀h',h'.PlainList l (vs.set k.toNat v).toArray→(∀b o,b≠l→s.heap.get? b=some o→h'.get? b=some o)→Q () {s with heap:=h'}):
  wpAny (model X.prog X.w) A (setItem (.ref l) (.int k t) v) Q E s:=by
 obtain ⟨ne,ho⟩:=id hl;have hI:=hl.isList;unfold setItem
 try with_reducible refine wpAny_holding ?_
 first|refine wpAny_bind (wpAny_pure ?_)|skip
 refine wpAny_bind (wpAny_sequenceKey hI.typeIs (by decide) ?_)
 refine wpAny_bind (wpAny_callSpecial?_slot (name:=Str.ofString "__setitem__") hI.typeIs slot_list_setitem
  (wpAny_call_entry slot_list_setitem hI.typeIs entry_list_setitem ?_ (args_list_setitem _ _ _)))
 show wpAny _ _ (Builtin.List.listSubscript? (.int k t)>>=_) _ _ s;refine wpAny_bind (wpAny_listSubscript_int (fitsIndex_of h0 (by omega)) ?_);obtain ⟨j,rfl⟩:=Int.eq_ofNat_of_zero_le h0;have hj:j<vs.toArray.size:=by simp;exact Nd hn
 have hx':vs.toArray[j]?=some vs.toArray[j]:=Array.getElem?_eq_getElem hj;show wpAny _ _ ((seqItemAt l j>>=fun r=>pure (r.map (j,·)))>>=_) _ _ s;refine wpAny_bind (wpAny_bind (wpAny_seqItemAt ho rfl (wpAny_pure ?_)));rw [hx'];show wpAny _ _ (setSeqItemAt l j v>>=_) _ _ s;have wg:(s.heap.update l (Obj.mapSeq (·.setIfInBounds j v))).PlainList l (vs.set (j:Int).toNat v).toArray:=by have:=qy (·.setIfInBounds j v) hl;simpa using this
 have cW:∀b o,b≠l→s.heap.get? b=some o→(s.heap.update l (Obj.mapSeq (·.setIfInBounds j v))).get? b=some o:=fun b o hb e=>(Heap.get?_update_other _ _ (Ne.symm hb)).trans e;refine wpAny_bind (wpAny_setSeqItemAt ho rfl ?_)
 first
  |exact wpAny_bind (wpAny_pure (wpAny_pure ⟨.none,rfl,wpAny_pure (p _ wg cW)⟩))
  |exact wpAny_pure ⟨.none,rfl,wpAny_pure (p _ wg cW)⟩
theorem aE.set {h:Heap} {Mu:List Addr} {x:V} {v:Value} (rv:RV X h Mu x v):∀{xs:List V} {vs:List Value} (i:Nat),aE X h Mu xs vs→aE X h Mu (xs.set i x) (vs.set i v)
 |[],_,_,r=>r.ue (P:=fun vs=>aE X h Mu [] (vs.set _ v)) rfl
 |_::_,_,0,r=>r.gM fun _ _ _ q=>aE.cons rv q
 |_::_,_,i+1,r=>r.gM fun _ _ p q=>aE.cons p (aE.set rv i q)
theorem FE (EV:∀pe,bL X C n pe) {i e:PE}:mP X C n K (.ie x i e):=by intro cs env m ow Mu s A E Q fl m' st F ok hm he p;refine wZ (P:=fun st=>wpAny _ A (exec st env) Q E s) hm fun o j sp v pos me mc mo mi=>ob he fun w ew he=>ob he fun xs zK he=>ob he fun jv ej he=>ob he fun k hj he=>oi he fun hk he=>?_;have hk:=of_decide_eq_true hk;cases he;have hx:=bM zK;refine wpAny_Assign_Subscript (EV e env m ow Mu s A E _ w v F.toFM ok me ew fun val h2 lg k2 r2=>?_) (sS mc);refine fQ (s:={s with heap:=h2,toks:=lg}) (F.kp k2).toFM mo hx fun ov sr=>?_;obtain ⟨ad,vs,ha,rfl,D3,hp,hz,rr⟩:=sr;refine EV i env m ow Mu _ A E _ _ j (F.kp k2).toFM ok mi ej fun iv h3 gO k3 r3=>fU hj r3 fun t=>?_;have hp3:=hp.at fun o e=>k3 _ _ e;refine set_plain (s:={s with heap:=h3,toks:=gO}) hp3 hk.1 (by rw [rr.length];exact hk.2) hz fun h4 hp4 hs4=>?_;exact p .next ow Mu h4 gO (((F.kp k2).kp k3).sV (vs':=vs.set k.toNat val) hx ha ⟨_,hp3⟩ hs4 hp4 (by rw [List.length_set];exact hz) (aE.set (r2.kp k3) _ (rr.kp k3))) (Ext.own hx) rfl
end
end
section
noncomputable def xu (X:Cx) (C:Calls) (n:Nat):Prop:=
 ∀f xs args v xs',C.io f xs args=some (v,xs')→∀a,X.mg (fn f)=some (.ref a)→∀(A:Around) (E:Value→Shared→Prop) (Q:Value→Shared→Prop) (s:Shared) (Mu:List Addr) (l:Addr) (vs jC:List Value),
  J5 n A→Kp X.h₀ s.heap→(∀a∈Mu,∃o,s.heap.get? a=some o)→(∀a∈Mu,X.h₀.get? a=none)→l∈Mu→s.heap.PlainList l vs.toArray→vs.length≤16777216→aE X s.heap Mu xs vs→aE X s.heap Mu args jC→
  (∀val vs' h' tk,(∀b o,b≠l→s.heap.get? b=some o→h'.get? b=some o)→h'.PlainList l vs'.toArray→vs'.length≤16777216→aE X h' Mu xs' vs'→RV X h' Mu v val→Q val {s with heap:=h',toks:=tk})→
  wpAny (model X.prog X.w) A (call (.ref a) (.ref l::jC) []) Q E s
section
variable {X:Cx} {C:Calls} {n K:Nat} {cs:List CP}
theorem yY (G:Gn X) (HI:xu X C n) (ES:∀es,xg X C n es) {args:List PE} {E:Value→Shared→Prop} {np:Pos} {a:Expr} {xs:List Expr}
  {ys ys':List V} {vs:List V} (F:FS X env m ow Mu cs s.heap) (ok:AB n A) (hf:f<30) (hg:bz env.scope (fn f)=true) (hd:fn f≠("__debug__":Str)) (mv:eg env.scope x a=true) (mx:mH env.scope args xs=true)
  (hx:ah m x=some (.own ys)) (ea:jh C m args=some vs) (ec:C.io f ys vs=some (v,ys'))
  (p:∀val h' tk,FS X env (ak m x (.own ys')) ow Mu cs h'→RV X h' Mu v val→Q val {s with heap:=h',toks:=tk}):
  wpAny (model X.prog X.w) A (eval (.Call (.Name (fn f) np) (a::xs) [] pos) env) Q E s:=by
 obtain ⟨fa,o,fd,xj,ho,hdt⟩:=G.Sn f hf;refine wpAny_Call_NameR (ez G F.toFM rfl hg hd (.inl xj) ?_);rw [eH (qs mv)];refine callWith_function_kw (o:=o) (fd:=fd) (evalArgs_plain (spliced_cons (fQ F.toFM mv hx fun val sr=>?_)));obtain ⟨ad,ls,ha,rfl,D3,hp,hz,rr⟩:=sr;refine ES args env m ow Mu s A E _ vs xs pos F.toFM ok mx ea fun vals h2 lg k2 r2=>?_;have F2:=F.kp k2;have hp2:=hp.at fun o e=>k2 _ _ e;refine ⟨⟨F2.hold _ _ ho,hdt⟩,?_⟩;refine HI f ys vs v ys' ec fa xj A E Q {s with heap:=h2,toks:=lg} Mu ad ls vals ok.ok F2.hold F2.ex F2.new D3 hp2 hz (rr.kp k2) r2 fun val ls' h3 gO hk hp3 hz3 rr3 rv=>?_;exact p val h3 gO (F2.mQ hx ha ⟨_,hp2⟩ hk hp3 hz3 rr3) rv
theorem SP (G:Gn X) (HI:xu X C n) (ES:∀es,xg X C n es) {args:List PE}:mP X C n K (.io f x args):=by intro cs env m ow Mu s A E Q fl m' st F ok hm he p;refine CR (P:=fun st=>wpAny _ A (exec st env) Q E s) hm fun np a xs pos ep hf hg hd mv mx=>ob he fun ys ey he=>ob he fun vs ea he=>?_;obtain ⟨q,ec,e2⟩:=Option.map_eq_some_iff.mp he;cases e2;have hx:=bM ey;exact nZ F.kind rfl (yY G HI ES F ok hf hg hd mv mx hx ea ec fun val h3 gO F3 rv=>p .next ow Mu h3 gO F3 (Ext.own hx) rfl)
theorem KG (G:Gn X) (HI:xu X C n) (EV:∀pe,bL X C n pe) (ES:∀es,xg X C n es) {ys:List Nat}:mP X C n K (.D8 ys f x lo):=by intro cs env m ow Mu s A E Q fl m' st F ok hm he p;refine Ab (P:=fun st=>wpAny _ A (exec st env) Q E s) hm fun ts i tp np a pos l slp sp pp mt hf hg hd mv ms=>ob he fun zs ey he=>ob he fun q ec he=>ob he fun lv el he=>ob he fun tv et he=>ob he fun tvs hts he=>?_;obtain ⟨m2,hs,e2⟩:=Option.map_eq_some_iff.mp he;cases e2;have hx:=bM ey;refine wpAny_Assign_stores (Subscript_ (yY G HI ES F ok hf hg hd mv (args:=[]) (xs:=[]) rfl hx rfl ec fun val h3 gO F3 rv=>?_)) rfl rfl;refine wpAny_Slice ?_;rw [evalPart_some,evalPart_none];refine EV lo env _ ow Mu _ A E _ lv l F3.toFM ok ms el fun y h4 Fp k4 r4=>wpAny_pure (wpAny_pure ?_);have F4:=F3.kp k4;refine mY (s:={s with heap:=h4,toks:=Fp}) F4.ex et (RV.kp k4 rv) r4 rfl rfl fun XD h5 XE k5 r5=>?_;have F5:=F4.kp k5;show wpAny _ _ (assign (.Tuple ts i tp) env XD) _ _ _;refine iH (s:={s with heap:=h5,toks:=XE}) (tg:=.many ys) ok.1 F5.toFM mt (show (DW tv).bind _=_ by rw [hts];exact hs) r5 fun h6 tk6 hk F6=>?_;exact p .next ow Mu h6 tk6 (F5.chg (xs:=ys) (F6.less fun k hk=>absurd (ff hk).1 List.not_mem_nil) hk) ((Ext.own hx).trans (Ext.fq hs)) rfl
end
end
section
section
variable {X:Cx} {C:Calls} {n K:Nat}
theorem fR.fin {m₁:ao} {Mk:Nat→Option Addr} {Df:List Addr} {cs:List CP} {fl₁:Fl} {f:Flow} {Q:Flow→Shared→Prop} {g:Heap} {tk:Nat} (p:fR X env m ow cs s fl m' Q) (he:some (fl₁,m₁)=some (fl,m'))
  (F:FS X env m₁ Mk Df cs g) (X1:Ext m ow m₁ Mk) (r:UT X g Df fl₁ f):Q f {s with heap:=g,toks:=tk}:=by
 cases he;exact p f Mk Df g tk F X1 r
theorem fR.next {m₁:ao} {Mk:Nat→Option Addr} {cs:List CP} {Q:Flow→Shared→Prop} {g:Heap} {tk:Nat} (p:fR X env m ow cs s fl m' Q) (X1:Ext m ow m₁ Mk):fR X env m₁ Mk cs {s with heap:=g,toks:=tk} fl m' Q:= fun f XF Ft h3 gO F2 X2 XG=>p f XF Ft h3 gO F2 (X1.trans X2) XG
theorem KH (EV:∀pe,bL X C n pe) {e:PE}:mP X C n K (.ret e):=by intro cs env m ow Mu s A E Q fl m' st F ok hm he p;refine Ae (P:=fun st=>wpAny _ A (exec st env) Q E s) hm fun v pos me=>?_;obtain ⟨q,hz,e2⟩:=Option.map_eq_some_iff.mp he;cases e2;exact wpAny_Return_some (gp (EV e) F ok me hz fun val Fv Fw h2 lg F1 X1 r=>p _ Fv Fw h2 lg F1 X1 ⟨val,rfl,r⟩)
theorem KI:mP X C n K .brk:=by intro cs env m ow Mu s A E Q fl m' st F ok hm he p;exact E3 (P:=fun st=>wpAny _ A (exec st env) Q E s) hm fun _=>wpAny_Break (p.fin he F (Ext.refl _ _) rfl)
theorem FF:mP X C n K .cont:=by intro cs env m ow Mu s A E Q fl m' st F ok hm he p;exact CQ (P:=fun st=>wpAny _ A (exec st env) Q E s) hm fun _=>wpAny_Continue (p.fin he F (Ext.refl _ _) rfl)
theorem KJ:mP X C n K .bad:=fun _ _ _ _ _ _ _ _ _ _ _ _ _ _ _ he _=>no he
theorem KL:vO X C n K []:=by intro cs env m ow Mu s A E Q fl m' sts F ok hm he p;exact bq (P:=fun sts=>wpAny _ A (execs sts env) Q E s) hm (wpAny_execs_nil (p.fin he F (Ext.refl _ _) rfl))
theorem FG {a:PS} {r:List PS} (ha:mP X C n K a) (hr:vO X C n K r):vO X C n K (a::r):=by
 intro cs env m ow Mu s A E Q fl m' sts F ok hm he p;refine J3 (P:=fun sts=>wpAny _ A (execs sts env) Q E s) hm fun st sts ma mr=>ob he fun q h1 he=>?_;refine wpAny_execs_cons (ha cs env m ow Mu s A E _ q.1 q.2 st F ok ma h1 fun f Fv Fw h2 lg F1 X1 fr=>?_);obtain ⟨f1,m1⟩:=q;cases f1 with
 |next=>cases (show f=.next from fr);exact hr cs env m1 Fv Fw _ A E Q fl m' sts F1 ok mr he (p.next X1)
 |cont=>cases (show f=.cont from fr);exact p.fin he F1 X1 rfl
 |brk=>cases (show f=.brk from fr);exact p.fin he F1 X1 rfl
 |ret v=> obtain ⟨val,rfl,r⟩:=fr;exact p.fin he F1 X1 ⟨val,rfl,r⟩
theorem KN (TR:∀pe,ji X C n pe) {t:PE} {a b:List PS} (ha:vO X C n K a) (hb:vO X C n K b):mP X C n K (.fH t a b):=by
 intro cs env m ow Mu s A E Q fl m' st F ok hm he p;refine Ac (P:=fun st=>wpAny _ A (exec st env) Q E s) hm fun c x y pos mt ma mb=>ob he fun b eb he=>?_;refine wpAny_If (TR t env m ow Mu s A E _ b _ F.toFM ok mt eb fun h1 qf k1=>?_);cases b
 ·exact hb cs env m ow Mu _ A E Q fl m' _ (F.kp k1) ok mb he (p.at h1 qf)
 ·exact ha cs env m ow Mu _ A E Q fl m' _ (F.kp k1) ok ma he (p.at h1 qf)
theorem KO {a:List PS} (ha:vO X C n K a):mP X C n K (.ig a):=by intro cs env m ow Mu s A E Q fl m' st F ok hm he p;refine w7 (P:=fun st=>wpAny _ A (exec st env) Q E s) hm fun x hd hs pos ma=>?_;refine wpAny_Try_except (ha cs env m ow Mu s A _ _ fl m' _ F ok ma he fun f XF Ft h3 gO F2 X2 XG=>?_);have:=p f XF Ft h3 gO F2 X2 XG;cases f <;>first|exact wpAny_execs_nil this|exact this
inductive KP (X:Cx) (env:Env) (m:ao) (ow:Nat→Option Addr) (cs:List CP) (s:Shared) (g:Nat→ao→Option (Fl×ao)) (r:Option (Fl×ao)):Nat→Shared→Prop
 |mk {k:Nat} (mi:ao) (yZ:Nat→Option Addr) (qz:List Addr) (h:Heap) (tk:Nat) (F:FS X env mi yZ qz cs h) (X1:Ext m ow mi yZ) (hw:g k mi=r):KP X env m ow cs s g r k {s with heap:=h,toks:=tk}
theorem KQ (TR:∀pe,ji X C n pe) {t:PE} {a:List PS} (ha:vO X C n K a):mP X C n K (.zB t a):=by
 intro cs env m ow Mu s A E Q fl m' st F ok hm he p;refine Ad (P:=fun st=>wpAny _ A (exec st env) Q E s) hm fun c x pos mt ma=>?_;refine wpAny_While (codeAny_whileLoop (KP X env m ow cs s (tG (fun m=>tr C m t) (fun m=>exs C K a m)) (some (fl,m'))) (fun k s' hI=>?_) K (.mk m ow Mu s.heap s.toks F (Ext.refl _ _) he));cases hI with|mk mi yZ qz g tk Fi Xi hw=>
 cases k with
 |zero=>exact no hw
 |succ k=>
  refine ob hw fun b eb hw=>TR t env mi yZ qz _ A _ _ b _ Fi.toFM ok mt eb fun h1 qf k1=>?_;cases b with
  |false=>exact wpAny_execs_nil (p.fin hw (Fi.kp k1) Xi rfl)
  |true=>
   refine ob hw fun q Sa hw=>ha cs env mi yZ qz _ A _ _ q.1 q.2 _ (Fi.kp k1) ok ma Sa fun f Fv Fw h2 lg F1 X1 fr=>?_;have X2:=Xi.trans X1;have go:tG (fun m=>tr C m t) (fun m=>exs C K a m) k q.2=some (fl,m')→∃m_1,m_1<k+1∧KP X env m ow cs s (tG (fun m=>tr C m t) (fun m=>exs C K a m)) (some (fl,m')) m_1 {s with heap:=h2,toks:=lg}:= fun hw=>⟨k,Nat.lt_succ_self _,.mk q.2 Fv Fw h2 lg F1 X2 hw⟩;obtain ⟨f1,m1⟩:=q;cases f1 with
   |next=>cases (show f=.next from fr);exact go hw
   |cont=>cases (show f=.cont from fr);exact go hw
   |brk=>cases (show f=.brk from fr);exact p.fin hw F1 X2 rfl
   |ret v=> obtain ⟨val,rfl,r⟩:=fr;exact p.fin hw F1 X2 ⟨val,rfl,r⟩
end
end
section
section
variable {X:Cx} {C:Calls} {n K:Nat} {env:Env} {m m':ao} {ow:Nat→Option Addr} {Mu eL:List Addr} {h h':Heap} {cs:List CP}
theorem RV.move (hk:R5 Mu h h') (Ii:∀a∈eL,a∈Mu∨h.get? a=none) {val:Value} (r:RV X h Mu v val):RV X h' eL v val:= RV.to (fun a o n e=>⟨fun q=>(Ii a q).elim n fun z=>(nomatch z.symm.trans e),hk a o n e⟩) _ _ r
noncomputable def Apart (env:Env) (ow:Nat→Option Addr) (b:Addr):Prop:=¬(b=env.locals∨(∃n,env.kindOf n=some .cell∧env.cells.lookup n=some b)∨∃x,ow x=some b)∧∀n,env.kindOf n=some .free→env.cells.lookup n≠some b
theorem Apart.loc {b:Addr} (a:Apart env ow b):env.locals≠b:=fun q=>a.1 (.inl q.symm)
theorem Apart.cell {b:Addr} (a:Apart env ow b) (k:Str) (c:Addr) (q:env.kindOf k=some .cell∨env.kindOf k=some .free) (l:env.cells.lookup k=some c):c≠b:=fun z=>q.elim (fun q=>a.1 (.inr (.inl ⟨k,q,z▸l⟩))) fun q=>a.2 k q (z▸l)
theorem Apart.own {b:Addr} (a:Apart env ow b) (x:Nat) (c:Addr) (e:ow x=some c):c≠b:=fun z=>a.1 (.inr (.inr ⟨x,z▸e⟩))
theorem Apart.of {b:Addr} (h1:env.locals≠b) (h2:∀k c,env.kindOf k=some .cell∨env.kindOf k=some .free→env.cells.lookup k=some c→c≠b) (h3:∀x,ow x≠some b):Apart env ow b:= ⟨fun q=>q.elim (fun q=>h1 q.symm) fun q=>q.elim (fun ⟨k,k1,k2⟩=>h2 k b (.inl k1) k2 rfl) fun ⟨x,e⟩=>h3 x e,fun k q l=>h2 k b (.inr q) l rfl⟩
theorem Apart.UX {b:Addr} (a:Apart env ow b) (h3:∀x,lJ x≠some b):Apart env lJ b:=Apart.of a.loc a.cell h3
theorem Apart.all (a:∀b∈W,Apart env ow b):env.locals∉W∧(∀n c,env.kindOf n=some .cell∨env.kindOf n=some .free→env.cells.lookup n=some c→c∉W)∧∀x a,ow x=some a→a∉W:= ⟨fun q=>(a _ q).loc rfl,fun n c k l q=>(a c q).cell n c k l rfl,fun x c e q=>(a c q).own x c e rfl⟩
theorem bI {b:Addr}:b∈Mu.filter (fun b=>!W.contains b)↔b∈Mu∧b∉W:=by rw [List.mem_filter,Bool.not_eq_true',List.contains_eq_mem,decide_eq_false_iff_not]
theorem FS.mark (F:FS X env m ow Mu cs h) (W:List Addr) (hW:∀b∈W,b∈Mu∧Apart env ow b):FS X env m ow Mu (⟨h,Mu.filter (fun b=>!W.contains b),W⟩::cs) h:=
 {F.toFM with
  cp:=fun c hc=>by
   rcases List.mem_cons.mp hc with rfl|hc
   ·have ap:=Apart.all fun b hb=>(hW b hb).2;refine ⟨fun b o _ e=>e,fun b q=>.inr (bI.mpr ?_),fun a ha=>(hW a ha).1,fun a ha=>⟨F.ex a (hW a ha).1,fun q=>(bI.mp q).2 ha⟩,fun a ha=>if z:a∈W then .inr (.inl z) else .inl (bI.mpr ⟨ha,z⟩)⟩;rcases q with rfl|⟨k,k1,k3⟩|⟨y,q⟩
    ·exact ⟨F.eO,ap.1⟩
    ·exact ⟨F.toFM.jG k b (.inl k1) k3,ap.2.1 k b (.inl k1) k3⟩
    ·exact ⟨F.gU y b q,ap.2.2 y b q⟩
   ·exact F.cp c hc}
theorem FS.unmark {c:CP} (F:FS X env m ow Mu (c::cs) h):FS X env m ow Mu cs h:={F.toFM with cp:=fun c hc=>F.cp c (List.mem_cons_of_mem _ hc)}
theorem FS.older (F:FS X env m ow Mu cs h) {b:Addr} (hb:h.get? b=none) (c:CP) (hc:c∈cs):b∈c.io∨c.h₁.get? b=none:=
 if q:b∈c.io then .inl q else .inr (by
  cases e:c.h₁.get? b with
  |none=>rfl
  |some o=>rw [(F.cp c hc).keep _ o q e] at hb;cases hb)
theorem FS.grow (F:FS X env m ow Mu cs h) (hk:Kp h h') (as:List Addr) (hn:∀a∈as,h.get? a=none) (he:∀a∈as,∃o,h'.get? a=some o):FS X env m ow (as++Mu) cs h':=
 {F.toFM.grow hk as hn he with
  cp:=fun c hc=>⟨fun b o hb e=>hk b o ((F.cp c hc).keep b o hb e),(F.cp c hc).fresh,fun a ha=>mR ((F.cp c hc).mo a ha),(F.cp c hc).Ij,fun a ha=>Me ha (fun q=>(F.older (hn a q) c hc).imp id .inr) ((F.cp c hc).Ky a)⟩}
theorem FS.xo (F:FS X env m ow Mu cs h) (W:List Addr) (hk:∀b o,b∉W→h.get? b=some o→h'.get? b=some o) (hW:∀b∈W,b∈Mu) (he:∀b∈W,∃o,h'.get? b=some o)
  (ap:∀b∈W,Apart env ow b) (hc:∀c∈cs,∀b∈W,b∈c.io∨c.h₁.get? b=none):FS X env m ow Mu cs h':=
 have a:=Apart.all ap
 {F.toFM.xo W hk hW he a.1 a.2.1 a.2.2 with
  cp:=fun c hcs=>{F.cp c hcs with keep:=fun b o hb e=>hk b o (fun q=>(hc c hcs b q).elim hb fun z=>(nomatch z.symm.trans e)) ((F.cp c hcs).keep b o hb e)}}
theorem FS.forget (F:FS X env m ow Mu cs h) (W:List Addr) (hk:∀b o,b∉W→h.get? b=some o→h'.get? b=some o) (hW:∀b∈W,b∈Mu)
  (ap:∀b∈W,Apart env ow b) (hc:∀c∈cs,∀b∈W,b∈c.io∨c.h₁.get? b=none):FS X env m ow (Mu.filter (fun b=>!W.contains b)) cs h':=
 have a:=Apart.all ap;have M:=F.toFM.tr (eL:=Mu.filter (fun b=>!W.contains b)) W hk hW (fun a ha=>.inl (bI.mp ha).1) (fun a ha=>let ⟨q,w⟩:=bI.mp ha;let ⟨o,e⟩:=F.ex a q;⟨o,hk a o w e⟩) (fun _ q w=>bI.mpr ⟨q,w⟩) a.1 a.2.1 a.2.2
 {M with
  cp:=fun c hcs=>⟨fun b o hb e=>hk b o (fun q=>(hc c hcs b q).elim hb fun z=>(nomatch z.symm.trans e)) ((F.cp c hcs).keep b o hb e),(F.cp c hcs).fresh,
   fun a ha=>bI.mpr ⟨(F.cp c hcs).mo a ha,fun q=>(hc c hcs a q).elim ((F.cp c hcs).Ij a ha).2 fun z=>let ⟨_,e⟩:=((F.cp c hcs).Ij a ha).1;(nomatch z.symm.trans e)⟩,(F.cp c hcs).Ij,fun a ha=>(F.cp c hcs).Ky a (bI.mp ha).1⟩}
structure SQ (X:Cx) (A:Around) (target:Expr) (I:Addr) (W:List Addr) (h₁:Heap) (Df:List Addr) (xs:List V) (St:Nat→Heap→Prop):Prop where
 frame:∀j g g',St j g→(∀b o,(b∈W∨(h₁.get? b≠none∧b∉Df))→g.get? b=some o→g'.get? b=some o)→St j g'
 has:∀j g,St j g→∀b∈W,∃o,g.get? b=some o
 step:∀j (s:Shared) (E:Value→Shared→Prop) (N:Shared→Prop) (R:Value→Shared→Prop) (hj:j<xs.length),St j s.heap→
  (∀v g tk,St (j+1) g→(∀b o,b∉W→s.heap.get? b=some o→g.get? b=some o)→(∀qz,R5 Df h₁ g→(∀a∈qz,a∈Df∨h₁.get? a=none)→(∀a∈qz,∃o,s.heap.get? a=some o)→RV X g qz xs[j] v)→R v {s with heap:=g,toks:=tk})→
  wpAny (model X.prog X.w) A (pyNext (.ref I)) (fun r s₁=>match r with|none=>N s₁|some v=>wpAny (model X.prog X.w) A (letOwnedTupleGo target (.ref I) v) (fun _ s₂=>R v s₂) E s₁) E s
 done:∀(s:Shared) (E:Value→Shared→Prop) (N:Shared→Prop) (R:Value→Shared→Prop),St xs.length s.heap→(∀g tk,(∀b o,b∉W→s.heap.get? b=some o→g.get? b=some o)→N {s with heap:=g,toks:=tk})→
  wpAny (model X.prog X.w) A (pyNext (.ref I)) (fun r s₁=>match r with|none=>N s₁|some v=>R v s₁) E s
inductive KS (X:Cx) (env:Env) (m:ao) (ow:Nat→Option Addr) (cs:List CP) (s:Shared) (W:List Addr) (St:Nat→Heap→Prop) (g:List V→ao→Option (Fl×ao)) (r:Option (Fl×ao)) (xs:List V):Nat→Shared→Prop
 |mk (j:Nat) (mi:ao) (yZ:Nat→Option Addr) (qz:List Addr) (h:Heap) (tk:Nat) (hj:j≤xs.length) (F:FS X env mi yZ qz cs h) (X1:Ext m ow mi yZ) (hM:∀b∈W,b∈qz∧Apart env yZ b) (st:St j h) (hfl:g (xs.drop j) mi=r):
  KS X env m ow cs s W St g r xs (xs.length+1-j) {s with heap:=h,toks:=tk}
theorem Dg {E:Value→Shared→Prop} {x:List Stmt} {a:List PS} {Df:List Addr} {m₂ m₃:ao} {f₁:Fl} {j:Nat} {Q:Flow→Shared→Prop}
  (ha:vO X C n K a) (ma:qq env.scope a x=true) (ok:AB n A) (hfr:∀j g g',St j g→(∀b o,(b∈W∨(h₁.get? b≠none∧b∉Df))→g.get? b=some o→g'.get? b=some o)→St j g')
  (F:FS X env m₂ ow Mu (⟨h₁,Df,[]⟩::cs) s.heap) (hM:∀b∈W,b∈Mu∧Apart env ow b) (st:St j s.heap) (hb:exs C K a m₂=some (f₁,m₃))
  (k:∀f yZ qz g tk,FS X env m₃ yZ qz (⟨h₁,Df,[]⟩::cs) g→Ext m₂ ow m₃ yZ→(∀b∈W,b∈qz∧Apart env yZ b)→St j g→UT X g qz f₁ f→Q f {s with heap:=g,toks:=tk}):
  wpAny (model X.prog X.w) A (execs x env) Q E s:=by
 refine ha _ env m₂ ow Mu _ A _ _ f₁ m₃ _ (F.mark W hM) ok ma hb fun f UY XH g4 Fp F4 X4 fr=>?_;have c1:=F4.cp _ (List.mem_cons_self ..);have c0:=F.cp _ (List.mem_cons_self ..);refine k f UY XH g4 Fp F4.unmark X4 (fun b hb=>⟨c1.mo b hb,(hM b hb).2.UX fun y e=>?_⟩) (hfr _ _ _ st fun b o hb e=>c1.keep b o (fun q=>?_) e) fr
 ·rcases c1.fresh b (.inr (.inr ⟨y,e⟩)) with q|q
  ·obtain ⟨o,w⟩:=F.ex b (hM b hb).1;exact nomatch w.symm.trans q
  ·exact (bI.mp q).2 hb
 ·obtain ⟨q1,q2⟩:=bI.mp q;refine hb.elim q2 fun w=>?_;rcases c0.Ky b q1 with z|z|z
  ·exact w.2 z
  ·cases z
  ·exact w.1 z
noncomputable def FL (I:Nat→Shared→Prop) (Q:Flow→Shared→Prop) (n:Nat) (f:Flow) (s:Shared):Prop:=match f with
 |.next|.cont=>∃m,m<n∧I m s
 |.brk=>Q .next s
 |.ret v=>Q (.ret v) s
noncomputable def FH (M:Model) (A:Around) (t:Expr) (it v:Value) (x:List Stmt) (env:Env) (E:Value→Shared→Prop) (J:Flow→Shared→Prop) (s:Shared):Prop:= wpAny M A (letOwnedTupleGo t it v) (fun _ s₂=>wpAny M A (assign t env v) (fun _ s₃=>wpAny M A (execs x env) J E s₃) E s₂) E s
theorem uQ {E:Value→Shared→Prop} {Q:Flow→Shared→Prop} {t:Expr} {x:List Stmt} {it:Value} (I:Nat→Shared→Prop)
  (turn:∀E n s,I n s→wpAny (model X.prog X.w) A (pyNext it) (fun r s₁=>match r with|none=>Q .next s₁|some v=>FH (model X.prog X.w) A t it v x env E (FL I Q n) s₁) E s) (n:Nat) (h:I n s):
  codeAny (model X.prog X.w) A (.forLoop t it x [] env) (fun r s'=>match r with|.ok f=>Q f s'|.error e=>cameBackBy (model X.prog X.w) A env E e s') s:=
 codeAny_forLoop_any I (fun n s hI=>wpAny_mono (turn _ n s hI) (fun r s₁ h₁=>by
  cases r with
  |none=>exact wpAny_execs_nil h₁
  |some v=>exact wpAny_mono h₁ (fun _ s₂ h₂=>wpAny_mono h₂ (fun _ s₃ h₃=>wpAny_mono h₃ (fun f s₄ h₄=>by cases f <;>exact h₄) fun _ _ e=>e) fun _ _ e=>e) fun _ _ e=>e) fun _ _ e=>e) n h
theorem uR {E:Value→Shared→Prop} {Q:Flow→Shared→Prop} {a:List PS} {t:Expr} {x:List Stmt} {I:Addr} {h₂:Heap} {tk:Nat}
  (ha:vO X C n K a) (ok:AB n A) (mt:mw env.scope tg t=true) (ma:qq env.scope a x=true) (F1:FS X env m ow Mu cs h₁) (X1:Ext m₀ Cc m ow) (T:SQ X A t I W h₁ Mu xs St) (hW:∀b∈W,h₁.get? b=none)
  (k2:Kp h₁ h₂) (st0:St 0 h₂) (he:forL (fun m x=>(bQ m tg x).bind fun m'=>exs C K a m') xs m=some (fl,m')) (p:fR X env m₀ Cc cs s fl m' Q):
  codeAny (model X.prog X.w) A (.forLoop t (.ref I) x [] env) (fun r s'=>match r with|.ok f=>Q f s'|.error e=>cameBackBy (model X.prog X.w) A env E e s') {s with heap:=h₂,toks:=tk}:=by
 have UZ:∀{b c:Addr},b∈W→c∈Mu→c≠b:=fun {b c} hb hc q=>by obtain ⟨o,e⟩:=F1.ex c hc;rw [q,hW b hb] at e;cases e
 have ap1:∀b∈W,Apart env ow b:=fun b hb=>Apart.of (UZ hb F1.eO) (fun k c q l=>UZ hb (F1.toFM.jG k c q l)) fun y e=>UZ hb (F1.gU y b e) rfl;have F1':FS X env m ow Mu (⟨h₁,Mu,[]⟩::cs) h₁:=by
  have:=F1.mark [] fun _ h=>nomatch h
  rwa [show Mu.filter (fun b=>!([]:List Addr).contains b)=Mu from List.filter_eq_self.mpr fun _ _=>rfl] at this
 have hcs:∀c∈(⟨h₁,Mu,[]⟩::cs:List CP),∀b∈W,b∈c.io∨c.h₁.get? b=none:=fun c hc b hb=>F1'.older (hW b hb) c hc;refine uQ (KS X env m₀ Cc (⟨h₁,Mu,[]⟩::cs) s W St (forL fun m x=>(bQ m tg x).bind fun m'=>exs C K a m') (some (fl,m')) xs) (fun E' k s' hI=>?_) (xs.length+1)
  (.mk 0 m ow (W++Mu) h₂ tk (Nat.zero_le _) (F1'.grow k2 W hW (T.has _ _ st0)) X1 (fun b hb=>⟨mL hb,ap1 b hb⟩) st0 he)
 cases hI with|mk j mi yZ qz g tk hj Fg Xi hM hst hfl=>
 by_cases hlt:j<xs.length
 ·refine T.step j _ _ _ _ hlt hst fun v g1 qf mq hk1 hrv=>?_;have XJ:=Fg.xo W hk1 (fun b hb=>(hM b hb).1) (T.has _ _ mq) (fun b hb=>(hM b hb).2) hcs;have c0:=XJ.cp _ (List.mem_cons_self ..);have XK:∀a∈qz,a∈Mu∨h₁.get? a=none:=fun a ha=>(c0.Ky a ha).imp id fun q=>q.elim (fun q=>nomatch q) id;rw [List.drop_eq_getElem_cons hlt] at hfl;refine ob hfl fun q hb1 hfl=>ob hb1 fun m2 hs2 hb1=>?_;refine iH (s:={s with heap:=g1,toks:=qf}) ok.1 XJ.toFM mt hs2 (hrv qz (fun b o hb e=>c0.keep b o hb e) XK Fg.ex) fun g2 lg hk2 M2=>?_;have FS2:=XJ.chg (M2.less fun q hq=>absurd (ff hq).1 List.not_mem_nil) hk2
  have CB:=T.frame _ _ g2 mq fun b o hb e=>hk2 b o (fun q=>by
   have hbM:b∈Mu:=q.elim (fun e=>e▸F1.eO) fun ⟨y,_,k1,k3⟩=>F1.toFM.jG _ _ (.inl k1) k3
   exact hb.elim (fun w=>UZ w hbM rfl) fun w=>w.2 hbM) e
  refine Dg (s:={s with heap:=g2,toks:=lg}) ha ma ok T.frame FS2 hM CB hb1 fun f UY XH g4 Fp F5 X4 hM4 XM fr=>?_;have X5:Ext m₀ Cc q.2 UY:=(Xi.trans (Ext.bQ hs2)).trans X4;have go:forL (fun m x=>(bQ m tg x).bind fun m'=>exs C K a m') (xs.drop (j+1)) q.2=some (fl,m')→∃k,k<xs.length+1-j∧KS X env m₀ Cc (⟨h₁,Mu,[]⟩::cs) s W St (forL fun m x=>(bQ m tg x).bind fun m'=>exs C K a m') (some (fl,m')) xs k {s with heap:=g4,toks:=Fp}:= fun hfl=>⟨xs.length+1-(j+1),Nat.sub_lt_sub_left (Nat.lt_succ_of_lt hlt) (Nat.lt_succ_self j),.mk (j+1) q.2 UY XH g4 Fp hlt F5 X5 hM4 XM hfl⟩;obtain ⟨f1,m3⟩:=q;cases f1 with
  |next=>cases (show f=.next from fr);exact go hfl
  |cont=>cases (show f=.cont from fr);exact go hfl
  |brk=>cases (show f=.brk from fr);exact p.fin hfl F5.unmark X5 rfl
  |ret w=> obtain ⟨val,rfl,r⟩:=fr;exact p.fin hfl F5.unmark X5 ⟨val,rfl,r⟩
 ·cases Nat.le_antisymm hj (Nat.not_lt.mp hlt);rw [List.drop_length] at hfl;refine T.done _ _ _ _ hst fun g1 qf hk1=>?_;exact p.fin hfl (Fg.forget W hk1 (fun b hb=>(hM b hb).1) (fun b hb=>(hM b hb).2) hcs).unmark Xi rfl
theorem FI (EV:∀pe,bL X C n pe) {a:List PS} (ha:vO X C n K a):mP X C n K (.dW tg it a):=by
 intro cs env m ow Mu s A E Q fl m' st F ok hm he p;refine w5 (P:=fun st=>wpAny _ A (exec st env) Q E s) hm fun t i x pos mt mi XN ma=>ob he fun q hz he=>ob he fun xs zK he=>?_;refine wpAny_For (gp (EV it) F ok mi hz fun val Fv Fw h1 qf F1 X1 r1=>?_) (xd XN);refine fO (s:={s with heap:=h1,toks:=qf}) ok.1 F1.ex zK r1 fun h2 k2 ⟨T⟩=>?_;refine uR (St:=T.St) (W:=[h1.objs.size]) ha ok mt ma F1 X1 ⟨fun j g g' st hk=>T.W.frame _ _ _ st fun b hb o e=>hk b o ?_ e,fun j g st b hb=>?_,fun j s' E' N R hj st k=>?_,fun s' E' N R st k=>T.W.done _ _ _ st k⟩
  (fun b hb=>by rw [List.mem_singleton.mp hb];exact aM (Nat.le_refl _)) k2 T.st he p
 ·exact (T.old b hb).imp (fun q=>List.mem_singleton.mpr q) fun ⟨o,e⟩=>⟨fun z=>(nomatch z.symm.trans e),T.off b hb⟩
 ·rw [List.mem_singleton.mp hb];obtain ⟨o,_,e,_⟩:=T.has _ _ st;exact ⟨o,e⟩
 ·refine T.W.item j _ _ _ hj st fun v g tk hP st1 hk=>?_;obtain ⟨o,ty,ho,hc,hT⟩:=T.has _ _ st1;exact Cz ho hc hT (k v g tk st1 hk fun qz h1 h2 _=>RV.move h1 h2 (T.item j xs[j] v (List.getElem?_eq_getElem hj) hP))
end
end
section
noncomputable def Binds (d:FD) (fd:FuncData):Prop:=∀vs ws rest:List Value,vs.length=d.params.length→ws.length=d.o8.length→(d.star=none→rest=[])→
 bindArgs fd ⟨vs++rest,(d.o8.map nm).zip ws⟩=(match d.star with|none=>pure ((d.params.map nm).zip vs++(d.o8.map nm).zip ws)|some q=>newTuple rest>>=fun t=>pure ((d.params.map nm).zip vs++[(nm q,t)]))
noncomputable def uS (X:Cx) (f:Nat) (d:FD):Prop:=∃a o pm code doc params body sc,X.mg (fn f)=some (.ref a)∧X.h₀.get? a=some o∧o.data=.func (docDef (fn f) params body sc pm code doc)∧
 X.h₀.CodeRec code (fn f)∧E4 d body sc=true∧Binds d (docDef (fn f) params body sc pm code doc)
structure n5 (d:FD) (body:List Stmt) (sc:Scope):Prop where
 kind:sc.kind=.function
 gen:sc.isGenerator=false
 co:sc.isCoroutine=false
 nd:dh (sc.names.map (·.1))=true
 body:qq sc d.body body=true
 bnd:∀x∈d.params++d.star.toList++d.o8,bnd sc x=true
 nda:dh ((d.params++d.star.toList++d.o8).map nm)=true
 sX:∀p∈sc.names,p.2≠.free
 shape:d.star=none∨d.o8=[]
theorem n5.of {d:FD} {sc:Scope} (h:E4 d body sc=true):n5 d body sc:= ba h fun h h9=>ba h fun h h8=>ba h fun h h7=>ba h fun h h6=>ba h fun h h5=>ba h fun h h4=>ba h fun h h3=>ba h fun h1 h2=> ⟨eq_of_beq h1,bn h2,bn h3,h4,h5,fun x hx=>List.all_eq_true.mp h6 x hx,h7,fun p hp=>bne_iff_ne.mp (List.all_eq_true.mp h8 p hp),bo h9 (fun h=>.inl (Option.isNone_iff_eq_none.mp h)) fun h=>.inr (List.isEmpty_iff.mp h)⟩
noncomputable def BR (X:Cx) (h:Heap) (Mu:List Addr) (ow:Nat→Option Addr):ao→List (Str×Value)→Prop
 |[],b=>b=[]
 |(x,sl)::r,b=>∃val t,b=(nm x,val)::t∧fP X h Mu (ow x) sl val∧BR X h Mu ow r t
section
variable {X:Cx} {Mu:List Addr} {ow:Nat→Option Addr} {h h':Heap}
theorem BR.kp (hk:Kp h h'):∀{m:ao} {b:List (Str×Value)},BR X h Mu ow m b→BR X h' Mu ow m b
 |[],_,r=>r
 |(x,sl)::m,b,r=>by obtain ⟨val,t,rfl,p,q⟩:=r;exact ⟨val,t,rfl,p.kp hk,BR.kp hk q⟩
theorem BR.app:∀{m m':ao} {b b':List (Str×Value)},BR X h Mu ow m b→BR X h Mu ow m' b'→BR X h Mu ow (m++m') (b++b')
 |[],m',b,b',r,q=>by have r:b=[]:=r;subst r;exact q
 |(x,sl)::m,m',b,b',r,q=>by obtain ⟨val,t,rfl,p,r'⟩:=r;exact ⟨val,t++b',rfl,p,BR.app r' q⟩
theorem BR.names:∀{m:ao} {b:List (Str×Value)},BR X h Mu ow m b→b.map (·.1)=m.map fun p=>nm p.1
 |[],b,r=>by have r:b=[]:=r;subst r;rfl
 |(x,sl)::m,b,r=>by obtain ⟨val,t,rfl,p,r'⟩:=r;simp [BR.names r']
theorem BR.get:∀{m:ao} {b:List (Str×Value)},BR X h Mu ow m b→dh (m.map fun p=>nm p.1)=true→∀{x:Nat} {sl:Sl},ah m x=some sl→∃val,b.lookup (nm x)=some val∧fP X h Mu (ow x) sl val
 |[],b,r,_,x,sl,e=>by simp [ah] at e
 |(y,sy)::m,b,r,hn,x,sl,e=>by
  obtain ⟨val,t,rfl,p,r'⟩:=r;obtain ⟨n1,n2⟩:=dF (by simpa using hn);simp only [ah] at e;cases q:Nat.beq y x with
  |true=> have:y=x:=Nat.eq_of_beq_eq_true q;subst this;rw [q] at e;cases e;exact ⟨val,by simp,p⟩
  |false=>
   rw [q] at e;obtain ⟨v,hv,sr⟩:=BR.get r' n2 e;refine ⟨v,?_,sr⟩
   have hne:nm x≠nm y:=fun z=>n1 (by
    have hm:=PySem.mem_of_lookup hv;have:nm x∈t.map (·.1):=List.mem_map.mpr ⟨_,hm,rfl⟩;rw [BR.names r'] at this
    rw [←z];simpa using this)
   rw [List.lookup_cons,beq_eq_false_iff_ne.mpr hne];exact hv
theorem n6 {kindOf:Str→Option NameKind}:∀{b:List (Str×Value)} {m:Str→Option Value} {n:Str},dh (b.map (·.1))=true→kindOf n=some .local→bindL kindOf b m n=match b.lookup n with|some v=>some v|none=>m n
 |[],m,n,_,_=>rfl
 |(k,v)::b,m,n,hn,hk=>by
  obtain ⟨n1,n2⟩:=dF (by simpa using hn);rw [bindL,n6 n2 hk,List.lookup_cons]
  by_cases q:n=k
  ·subst q;have:b.lookup n=none:=fB fun c hc=>n1 (List.mem_map.mpr ⟨_,hc,rfl⟩);rw [this,if_pos hk];simp
  ·rw [beq_eq_false_iff_ne.mpr q];cases b.lookup n with
   |some v=>rfl
   |none=>simp only;split <;>simp [q]
theorem n7 {kindOf:Str→Option NameKind}:∀{b:List (Str×Value)} {m:Str→Option Value} {n:Str},dh (b.map (·.1))=true→kindOf n≠some .local→bindC kindOf b m n=match b.lookup n with|some v=>some v|none=>m n
 |[],m,n,_,_=>rfl
 |(k,v)::b,m,n,hn,hk=>by
  obtain ⟨n1,n2⟩:=dF (by simpa using hn);rw [bindC,n7 n2 hk,List.lookup_cons]
  by_cases q:n=k
  ·subst q;have:b.lookup n=none:=fB fun c hc=>n1 (List.mem_map.mpr ⟨_,hc,rfl⟩);rw [this,if_neg hk];simp
  ·rw [beq_eq_false_iff_ne.mpr q];cases b.lookup n with
   |some v=>rfl
   |none=>simp only;split <;>simp [q]
theorem iI:∀{ps:List Nat} {st:Option Nat} {vs:List V} {a:ao},mU ps st vs=some a→a.map (·.1)=ps++st.toList
 |[],none,_,_,e=>oi e fun _ e=>os (P:=fun a=>a.map (·.1)=[]) e rfl
 |[],some q,_,_,e=>oi e fun _ e=>os (P:=fun a=>a.map (·.1)=[q]) e rfl
 |x::ps,st,_,_,e=>ob e fun _ _ e=>om (P:=fun a=>a.map (·.1)=x::(ps++st.toList)) e fun _ e=>congrArg (List.cons _) (iI e)
theorem lS:∀{ks:List Nat} {kv:List (Nat×V)} {a:ao},tS ks kv=some a→a.map (·.1)=ks
 |[],_,_,e=>oi e fun _ e=>os (P:=fun a=>a.map (·.1)=[]) e rfl
 |x::ks,_,_,e=>ob e fun _ _ e=>oi e fun _ e=>om (P:=fun a=>a.map (·.1)=x::ks) e fun _ e=>congrArg (List.cons _) (lS e)
theorem n8:∀{ps:List Nat} {st:Option Nat} {vs:List V} {a:ao} {jC:List Value},mU ps st vs=some a→aE X h Mu vs jC→
  ∃v1 rest us,jC=v1++rest∧v1.length=ps.length∧aE X h Mu us rest∧us.length≤16777216∧(st=none→rest=[]∧BR X h Mu (fun _=>none) a ((ps.map nm).zip v1))∧
   ∀q,st=some q→∀h' t,Kp h h'→RV X h' Mu (.tup us) t→BR X h' Mu (fun _=>none) a ((ps.map nm).zip v1++[(nm q,t)])
 |[],none,vs,a,jC,e,r=>oi e fun e e2=>bq (P:=fun vs=>aE X h Mu vs jC→_) e (fun r=>r.ue ⟨[],[],[],rfl,rfl,rfl,Nat.zero_le _,fun _=>⟨rfl,os (P:=fun a=>BR X h Mu _ a []) e2 rfl⟩,fun _ h=>nomatch h⟩) r
 |[],some q,vs,a,jC,e,r=>oi e fun e e2=>⟨[],jC,vs,rfl,rfl,r,bH e,fun h=>(nomatch h),fun q' hq h' t _ rt=>os (P:=fun a=>BR X h' Mu _ a _) e2 (by cases hq;exact ⟨t,[],rfl,rt,rfl⟩)⟩
 |x::ps,st,vs,a,jC,e,r=>ob e fun q hq e=>by refine jP (P:=fun vs=>aE X h Mu vs jC→_) hq (fun r=>r.gM fun v t r1 r2=>?_) r;obtain ⟨a',e',rfl⟩:=Option.map_eq_some_iff.mp e;obtain ⟨v1,rest,us,rfl,h1,h2,h3,h4,h5⟩:=n8 e' r2;exact ⟨v::v1,rest,us,rfl,congrArg Nat.succ h1,h2,h3,fun hs=>⟨(h4 hs).1,v,_,rfl,r1,(h4 hs).2⟩,fun q hq h' t hk rt=>⟨v,_,rfl,r1.kp hk,h5 q hq h' t hk rt⟩⟩
theorem uT:∀{ks:List Nat} {kv:List (Nat×V)} {b:ao} {Af:List (Str×Value)},tS ks kv=some b→KR X h Mu kv Af→∃ws,Af=(ks.map nm).zip ws∧ws.length=ks.length∧BR X h Mu (fun _=>none) b ((ks.map nm).zip ws)
 |[],kv,b,Af,e,r=>oi e fun e e2=>bq (P:=fun kv=>KR X h Mu kv Af→_) e (fun r=>⟨[],r,rfl,os (P:=fun b=>BR X h Mu _ b []) e2 rfl⟩) r
 |x::ks,kv,b,Af,e,r=>ob e fun q hq e=>oi e fun hx e=>by refine jP (P:=fun kv=>KR X h Mu kv Af→_) hq (fun r=>?_) r;obtain ⟨b',e',rfl⟩:=Option.map_eq_some_iff.mp e;obtain ⟨val,t,rfl,r1,r2⟩:=r;obtain ⟨ws,rfl,h1,h2⟩:=uT e' r2;rw [←Nat.eq_of_beq_eq_true hx];exact ⟨val::ws,rfl,congrArg Nat.succ h1,val,_,rfl,r1,h2⟩
end
end
section
section
variable {X:Cx} {Mu:List Addr} {h h':Heap} {A:Around} {E:Value→Shared→Prop} {s:Shared}
theorem FJ {d:FD} {fd:FuncData} {vs:List V} {ks:List (Nat×V)} {a b:ao} {Af:List (Str×Value)} {Q:List (Str×Value)→Shared→Prop}
  (B:Binds d fd) (hs:d.star=none∨d.o8=[]) (ha:mU d.params d.star vs=some a) (hb:tS d.o8 ks=some b) (rv:aE X s.heap Mu vs jC) (rk:KR X s.heap Mu ks Af) (hM:∀a∈Mu,∃o,s.heap.get? a=some o)
  (p:∀binds h',Kp s.heap h'→BR X h' Mu (fun _=>none) (a++b) binds→Q binds {s with heap:=h'}):
  wpAny (model X.prog X.w) A (bindArgs fd ⟨jC,Af⟩) Q E s:=by
 obtain ⟨v1,rest,us,rfl,h1,h2,h3,h4,h5⟩:=n8 ha rv;obtain ⟨ws,rfl,g1,g2⟩:=uT hb rk;rw [B v1 ws rest h1 g1 fun e=>(h4 e).1];cases hst:d.star with
 |none=>exact wpAny_pure (p _ s.heap (fun _ _ e=>e) (BR.app (h4 hst).2 g2))
 |some q=>
  refine wpAny_bind (wpAny_newTuple (wpAny_pure (p _ _ aA ?_)) (by rw [sizeLine_eq,h2.length];exact h3));rcases hs with z|z
  ·rw [hst] at z;cases z
  ·rw [z] at hb;refine oi hb fun _ e=>os (P:=fun b=>BR X _ Mu _ (a++b) _) e ?_;rw [List.append_nil];exact h5 q hst _ _ aA (kU hM h2 (by rw [h2.length];exact h3))
end
end
section
section
variable {X:Cx} {Mu:List Addr} {A:Around} {E:Value→Shared→Prop} {s:Shared}
noncomputable def lq (sc:Scope) (cells:List (Str×Addr)):List Addr:=sc.names.filterMap fun p=>cells.lookup p.1
theorem J5.Um {n:Nat} (ok:J5 n A):A.depth<1000:=Nat.lt_of_le_of_lt (Nat.le_trans (Nat.le_add_right _ _) ok.2.2) (by decide)
theorem qA {n:Nat} (a:J5 (n+1) A):AB n (A.deeper env):=by
 refine ⟨a.1,?_,?_⟩
 ·have:=a.2.1;show A.units+3+20*n+37≤8000;exact VU this
 ·have:=a.2.2;show A.depth+1+n≤800;exact VV this
theorem uU:∀{m:ao} {y:Nat} {sl:Sl},ah m y=some sl→y∈m.map (·.1)
 |[],y,sl,e=>by simp [ah] at e
 |(k,v)::m,y,sl,e=>by
  simp only [ah] at e;cases q:Nat.beq k y with
  |true=>rw [Nat.eq_of_beq_eq_true q];simp
  |false=> rw [q] at e;have:=uU (m:=m) e;simp at this⊢;exact .inr this
theorem Dh {d:FD} {sc:Scope} {code:Value} {fa:Addr} {s₂:Shared}
  (D:n5 d body sc) (he:env=newEnv sc s₁.heap.objs.size mainGlobals (cellsFrom (s₁.heap.objs.size+1) sc.names []) (cN++".<locals>.") (some fa) code none builtinsNs)
  (x:InCallC s₁ env.locals (bindL env.kindOf binds fun _=>none) env.cells (bindC env.kindOf binds fun _=>none) s₂)
  (hold:Kp X.h₀ s₁.heap) (hM:∀a∈Mu,∃o,s₁.heap.get? a=some o) (hnew:∀a∈Mu,X.h₀.get? a=none)
  (hb:BR X s₁.heap Mu ow m binds) (hm:m.map (·.1)=d.params++d.star.toList++d.o8) (hinj:∀x y a,ow x=some a→ow y=some a→x=y) (how:∀x a,ow x=some a→a∈Mu) (hcode:sG X code):
  FM X env m ow (env.locals::lq sc env.cells++Mu) [] s₂.heap∧(∀b∈env.locals::lq sc env.cells,s₁.heap.get? b=none):=by
 have hk:Kp s₁.heap s₂.heap:=x.toInCall.keep;have hkn:∀n,env.kindOf n=sc.names.lookup n:=fun n=>by subst he;rfl
 have hloc:env.locals=s₁.heap.objs.size:=by subst he;rfl
 have xw:env.cells=cellsFrom (s₁.heap.objs.size+1) sc.names []:=by subst he;rfl
 have Di:env.scope=sc:=by subst he;rfl
 have sX:∀n,sc.names.lookup n≠some .free:=fun n q=>D.sX _ (PySem.mem_of_lookup q) rfl;have cellIn:∀n c,env.cells.lookup n=some c→c∈lq sc env.cells:=fun n c hc=>by have hmem:(n,NameKind.cell)∈sc.names:=dU _ _ n c (PySem.mem_of_lookup (by rw [←xw];exact hc));exact List.mem_filterMap.mpr ⟨_,hmem,hc⟩
 have FN:∀b∈env.locals::lq sc env.cells,s₁.heap.get? b=none∧∃o,s₂.heap.get? b=some o:=fun b hb=>by
  rcases List.mem_cons.mp hb with rfl|hb
  ·refine ⟨by rw [hloc];exact aM (Nat.le_refl _),?_⟩;obtain ⟨o,_,_,ho,_⟩:=x.toInCall.ns;exact ⟨o,ho⟩
  ·obtain ⟨p,_,hl⟩:=List.mem_filterMap.mp hb;have hlt:=x.above _ _ (PySem.mem_of_lookup hl);refine ⟨aM (by rw [hloc] at hlt;exact Nat.le_of_lt hlt),?_⟩;obtain ⟨o,ho,_⟩:=x.cell _ _ hl;exact ⟨o,ho⟩
 have hnd:dh (m.map fun p=>nm p.1)=true:=by
  have:(m.map fun p=>nm p.1)=(m.map (·.1)).map nm:=by simp [List.map_map,Function.comp_def]
  rw [this,hm];exact D.nda
 have hbn:dh (binds.map (·.1))=true:=by rw [BR.names hb];exact hnd
 have hmx:∀y sl,ah m y=some sl→y∈m.map (·.1):=fun y sl e=>uU e;refine ⟨⟨by rw [Di];exact D.kind,by subst he;rfl,by subst he;rfl,fun b o e=>hk b o (hold b o e),fun a ha=>?_,fun a ha=>?_,by simp,⟨_,x.toInCall.ns⟩,fun n q=>?_,fun n n' c e1 e2=>?_,fun y sl e a _=>?_,hinj,fun y a e=>?_,fun y sl e=>?_,by subst he;exact hcode⟩,fun b hb=>(FN b hb).1⟩
 ·rcases List.mem_append.mp ha with q|q
  ·exact (FN a q).2
  ·obtain ⟨o,e⟩:=hM a q;exact ⟨o,hk _ _ e⟩
 ·rcases List.mem_append.mp ha with q|q
  ·cases e:X.h₀.get? a with
   |none=>rfl
   |some o=>have:=hold a o e;rw [(FN a q).1] at this;cases this
  ·exact hnew a q
 ·rw [hkn] at q;rcases q with q|q
  ·obtain ⟨c,hc⟩:=cellsFrom_some sc.names (s₁.heap.objs.size+1) n (PySem.mem_of_lookup q);rw [←xw] at hc;exact ⟨c,_,hc,by simp [cellIn n c hc],x.cell n c hc⟩
  ·exact absurd q (sX n)
 ·exact name_of_addr x.apart (PySem.mem_of_lookup e1) (PySem.mem_of_lookup e2)
 ·obtain ⟨val,hv,sr⟩:=BR.get hb hnd e;refine ⟨val,?_,?_⟩
  ·have ha:ET (sc.names.lookup (nm y))=true:=by rw [Di] at a;exact a
   rcases nS ha with q|q|q
   ·refine .inl ⟨by rw [hkn];exact q,_,x.toInCall.ns,?_⟩;rw [n6 hbn (by rw [hkn];exact q),hv]
   ·obtain ⟨c,hc⟩:=cellsFrom_some sc.names (s₁.heap.objs.size+1) (nm y) (PySem.mem_of_lookup q);rw [←xw] at hc;refine .inr ⟨.inl (by rw [hkn];exact q),c,hc,?_⟩;have:=x.cell _ c hc;rw [n7 hbn (by rw [hkn,q];simp),hv] at this;exact this
   ·exact absurd q (sX _)
  ·have Ii:∀a∈env.locals::lq sc env.cells++Mu,a∈Mu∨s₁.heap.get? a=none:=fun a ha=>by
    rcases List.mem_append.mp ha with q|q
    ·exact .inr (FN a q).1
    ·exact .inl q
   cases sl with
   |fz w=>exact RV.kp hk (RV.mu Ii _ _ sr)
   |own xs=> obtain ⟨ad,vs,e1,e2,e3,e4,e5,e6⟩:=sr;exact ⟨ad,vs,e1,e2,List.mem_append.mpr (.inr e3),e4.at fun o ho=>hk _ _ ho,e5,aE.kp hk (aE.mu Ii _ _ e6)⟩
 ·exact List.mem_append.mpr (.inr (how y a e))
 ·have:=D.bnd y (by rw [←hm];exact hmx y sl e);exact Nat.le_of_ble_eq_true (Bool.and_eq_true_iff.mp this).2
theorem uV {d:FD} {sc:Scope} (D:n5 d body sc) (hb:BR X h Mu ow m binds) (hm:m.map (·.1)=d.params++d.star.toList++d.o8) (L:Nat):
  ∀x∈binds,sc.names.lookup x.1=some .local∨(sc.names.lookup x.1=some .cell∧((cellsFrom L sc.names []).lookup x.1).isSome=true):=fun x hx=>by
 have h1:x.1∈binds.map (·.1):=List.mem_map.mpr ⟨x,hx,rfl⟩;rw [BR.names hb] at h1;obtain ⟨p,hp,e⟩:=List.mem_map.mp h1;have h2:p.1∈d.params++d.star.toList++d.o8:=by rw [←hm];exact List.mem_map.mpr ⟨p,hp,rfl⟩
 have h3:=(Bool.and_eq_true_iff.mp (D.bnd _ h2)).1;have h3:uu (sc.names.lookup (nm p.1))=true:=h3;rw [e] at h3;rcases fy h3 with q|q
 ·exact .inl q
 ·obtain ⟨c,hc⟩:=cellsFrom_some sc.names L x.1 (PySem.mem_of_lookup q);exact .inr ⟨q,by rw [hc];rfl⟩
theorem Dj {f:Flow} (e:V2 fl=some v) (r:UT X h Mu fl f):(f=.next∧RV X h Mu v .none)∨∃val,f=.ret val∧RV X h Mu v val:=by
 cases fl with
 |next=>exact .inl ⟨r,os (P:=fun v=>RV X h Mu v .none) (show some V.none=some v from e) rfl⟩
 |ret w=>exact .inr (os (P:=fun v=>∃val,f=.ret val∧RV X h Mu v val) (show some w=some v from e) r)
 |brk=>exact no e
 |cont=>exact no e
theorem qB {d:FD} {sc:Scope} {code:Value} {fa:Addr} {s₂:Shared}
  (D:n5 d body sc) (he:env=newEnv sc s₁.heap.objs.size mainGlobals (cellsFrom (s₁.heap.objs.size+1) sc.names []) (cN++".<locals>.") (some fa) code none builtinsNs)
  (x:InCallC s₁ env.locals (bindL env.kindOf binds fun _=>none) env.cells (bindC env.kindOf binds fun _=>none) s₂)
  (hold:Kp X.h₀ s₁.heap) (hM:∀a∈Mu,∃o,s₁.heap.get? a=some o) (hnew:∀a∈Mu,X.h₀.get? a=none)
  (hb:BR X s₁.heap Mu ow m binds) (hm:m.map (·.1)=d.params++d.star.toList++d.o8) (hinj:∀x y a,ow x=some a→ow y=some a→x=y) (how:∀x a,ow x=some a→a∈Mu∧a∈W) (hcode:sG X code):
  FS X env m ow (env.locals::lq sc env.cells++Mu) [⟨s₁.heap,W,Mu.filter (fun b=>!W.contains b)⟩] s₂.heap:=by
 obtain ⟨F,hnw⟩:=Dh D he x hold hM hnew hb hm hinj (fun x a e=>(how x a e).1) hcode;have hsc:env.scope=sc:=by subst he;rfl
 refine {F with cp:=fun c hc=>?_};rw [List.mem_singleton.mp hc];refine ⟨fun b o _ e=>x.toInCall.keep b o e,fun b q=>?_,fun a ha=>mR (bI.mp ha).1,fun a ha=>⟨hM a (bI.mp ha).1,(bI.mp ha).2⟩,fun a ha=>Me ha (fun q=>.inr (.inr (hnw a q))) fun q=>if w:a∈W then .inl w else .inr (.inl (bI.mpr ⟨q,w⟩))⟩;rcases q with rfl|⟨k,k1,k2⟩|⟨y,q⟩
 ·exact .inl (hnw _ (List.mem_cons_self ..))
 ·exact .inl (hnw b (List.mem_cons_of_mem _ (List.mem_filterMap.mpr ⟨_,PySem.mem_of_lookup (show sc.names.lookup k=some .cell from hsc▸k1),k2⟩)))
 ·exact .inr (how y b q).2
theorem Au {T:Nat→Option FD} {n:Nat} (G:Gn X) (HF:∀f d,T f=some d→uS X f d) (SS:∀body,vO X (lv T K n) n K body):fV X (lv T K (n+1)) (n+1):=by
 intro f vs ks v hc a xj A E Q s Mu jC Af ok hold hM hnew rv rk p;refine ob (show o9 T (lv T K n) K f vs ks=some v from hc) fun d hT hc=>oi hc fun _ hc=>ob hc fun a1 hba hc=>ob hc fun b1 hbb hc=>ob hc fun q hex hc=>?_;obtain ⟨a',o,pm,code,doc,params,body,sc,h1,h2,h3,h4,h5,hB⟩:=HF f d hT;cases xj.symm.trans h1;have D:=n5.of h5;refine wpAny_call (codeAny_call_function (body:=body) ok.Um (hold _ _ h2) h3 D.co D.gen rfl (h4.keeps hold) ?_);refine FJ hB D.shape hba hbb rv rk hM fun binds h' hk U0=>?_;have hm:(a1++b1).map (·.1)=d.params++d.star.toList++d.o8:=by rw [List.map_append,iI hba,lS hbb]
 refine wpAny_newFunctionEnv_cells D.kind (uV D U0 hm _) fun env he s₂ x=>?_;have hold':Kp X.h₀ h':=hold.trans hk;refine ⟨(G.lim.keeps hold').keeps x.toInCall.keep,codeAny_func ?_⟩;have XO:=qB (s₁:={s with heap:=h'}) (W:=[]) D he x hold' (fun a ha=>let ⟨o,e⟩:=hM a ha;⟨o,hk _ _ e⟩) hnew U0 hm (fun _ _ _ e=>nomatch e) (fun _ _ e=>nomatch e) (let ⟨c,o,vs,_,e,g,q,_⟩:=h4;⟨c,o,vs,e,g,q⟩);have hsc:env.scope=sc:=by subst he;rfl
 obtain ⟨h₂,tk₂,rfl⟩:=x.toInCall.same;refine SS d.body _ env _ _ _ _ _ _ _ q.1 q.2 body XO (qA ok) (hsc▸D.body) hex fun f' lJ eL h3 gO F3 X3 fr=>?_;have c3:=F3.cp _ (List.mem_singleton.mpr rfl);have kk:Kp s.heap h3:=fun b o e=>c3.keep b o List.not_mem_nil (hk _ _ e);have sub:∀a∈Mu,a∈eL:=fun a ha=>c3.mo a (bI.mpr ⟨ha,List.not_mem_nil⟩);rcases Dj hc fr with ⟨rfl,r⟩|⟨val,rfl,r⟩
 ·exact p .none h3 gO kk (RV.sub sub r)
 ·exact p val h3 gO kk (RV.sub sub r)
theorem FO {d:FD} {fd:FuncData} {vs:List V} {a:ao} {v0:Value} {Q:List (Str×Value)→Shared→Prop} {p0:Nat} {ps:List Nat}
  (B:Binds d fd) (hps:d.params=p0::ps) (hst:d.star=none) (hkw:d.o8=[]) (ha:mU ps none vs=some a) (rv:aE X s.heap Mu vs jC)
  (p:∀binds,BR X s.heap Mu (fun _=>none) a binds→Q ((nm p0,v0)::binds) s):
  wpAny (model X.prog X.w) A (bindArgs fd ⟨v0::jC,[]⟩) Q E s:=by
 obtain ⟨v1,rest,us,rfl,h1,_,_,h4,_⟩:=n8 ha rv;obtain ⟨rfl,h5⟩:=h4 rfl;have:=B (v0::v1) [] [] (by rw [hps];exact congrArg Nat.succ h1) (by rw [hkw];rfl) fun _=>rfl;rw [hps,hst,hkw] at this;rw [show v0::(v1++[])=(v0::v1)++[] from rfl,show (⟨(v0::v1)++[],[]⟩:Args)=⟨(v0::v1)++[],(([]:List Nat).map nm).zip []⟩ from rfl,this];refine wpAny_pure (p _ ?_);show BR X s.heap Mu _ a ((ps.map nm).zip v1++[]);rw [List.append_nil];exact h5
theorem BR.UX {h:Heap} {ow lJ:Nat→Option Addr}:∀{m:ao} {b:List (Str×Value)},(∀x∈m.map (·.1),lJ x=ow x)→BR X h Mu ow m b→BR X h Mu lJ m b
 |[],_,_,r=>r
 |(x,sl)::m,b,hn,r=>by obtain ⟨val,t,rfl,r1,r2⟩:=r;exact ⟨val,t,rfl,(hn x (List.mem_cons_self ..)).symm▸r1,BR.UX (fun y hy=>hn y (List.mem_cons_of_mem _ hy)) r2⟩
theorem FP {T:Nat→Option FD} {n:Nat} (G:Gn X) (HF:∀f d,T f=some d→uS X f d) (SS:∀body,vO X (lv T K n) n K body):xu X (lv T K (n+1)) (n+1):=by
 intro f xs args v xs' hc a xj A E Q s Mu l ls jC ok hold hM hnew KU hl hz rx rv p;refine ob (show Bq T (lv T K n) K f xs args=some (v,xs') from hc) fun d hT hc=>oi hc fun hd hc=>ba hd fun hd hkw=>ba hd fun _ hst=>ob hc fun pq hps hc=>ob hc fun a1 hba hc=>ob hc fun q hex hc=>ob hc fun v' hv hc=>?_;obtain ⟨p0,ps⟩:=pq;have hst:d.star=none:=Option.isNone_iff_eq_none.mp hst;have hkw:d.o8=[]:=List.isEmpty_iff.mp hkw;have hps:d.params=p0::ps:=jP (P:=fun l=>l=p0::ps) hps rfl;obtain ⟨a',o,pm,code,doc,params,body,sc,h1,h2,h3,h4,h5,hB⟩:=HF f d hT;cases xj.symm.trans h1;have D:=n5.of h5;refine wpAny_call (codeAny_call_function (body:=body) ok.Um (hold _ _ h2) h3 D.co D.gen rfl (h4.keeps hold) ?_);refine FO hB hps hst hkw hba rv fun binds U0=>?_;have U1:∀{x b},(if x=p0 then some l else none)=some b→x=p0∧b=l:=fun {x b} e=>by
  by_cases q:x=p0
  ·rw [if_pos q] at e;exact ⟨q,(Option.some.inj e).symm⟩
  ·rw [if_neg q] at e;cases e
 have hm:(((p0,Sl.own xs)::a1).map (·.1))=d.params++d.star.toList++d.o8:=by rw [hps,hst,hkw,List.map_cons,iI hba,List.append_nil];rfl
 have hnd:dh ((p0::a1.map (·.1)).map nm)=true:=by
  have:=D.nda
  rwa [←hm] at this
 have hp0:p0∉a1.map (·.1):=fun q=>(dF hnd).1 (List.mem_map.mpr ⟨p0,q,rfl⟩);have SR:BR X s.heap Mu (fun y=>if y=p0 then some l else none) ((p0,.own xs)::a1) ((nm p0,.ref l)::binds):=⟨.ref l,binds,rfl,⟨l,ls,if_pos rfl,rfl,KU,hl,hz,rx⟩,BR.UX (fun x hx=>if_neg (c:=x=p0) fun q=>hp0 (q▸hx)) U0⟩;refine wpAny_newFunctionEnv_cells D.kind (uV D SR hm _) fun env he s₂ x=>?_;refine ⟨(G.lim.keeps hold).keeps x.toInCall.keep,codeAny_func ?_⟩;have XO:=qB (s₁:=s) (W:=[l]) D he x hold hM hnew SR hm (fun x y b e1 e2=>(U1 e1).1.trans (U1 e2).1.symm) (fun x b e=>⟨(U1 e).2▸KU,List.mem_singleton.mpr (U1 e).2⟩) (let ⟨c,o,vs,_,e,g,q,_⟩:=h4;⟨c,o,vs,e,g,q⟩);have hsc:env.scope=sc:=by subst he;rfl
 obtain ⟨h₂,tk₂,rfl⟩:=x.toInCall.same;refine SS d.body _ env _ _ _ _ _ _ _ q.1 q.2 body XO (qA ok) (hsc▸D.body) hex fun f' lJ eL h3 gO F3 X3 fr=>?_;have c3:=F3.cp _ (List.mem_singleton.mpr rfl);have kk:∀b o,b≠l→s.heap.get? b=some o→h3.get? b=some o:=fun b o hb e=>c3.keep b o (fun q=>hb (List.mem_singleton.mp q)) e;obtain ⟨ys,hy,e⟩:=Option.map_eq_some_iff.mp hc;rw [(Prod.mk.inj e).2] at hy;rw [(Prod.mk.inj e).1] at hv;have hg:=bM hy;have XQ:ah ((p0,Sl.own xs)::a1) p0=some (.own xs):=by show (if Nat.beq p0 p0 then _ else _)=_;rw [Nat.beq_refl];rfl
 have h7:lJ p0=some l:=((X3 p0 (by rw [XQ];exact Option.some_ne_none _)).2 xs' hg).1.trans (if_pos rfl);obtain ⟨ad,vs',e1,e2,e3,e4,e5⟩:=KC F3.toFM hg (yX (hsc▸D.bnd p0 (by rw [hps];exact mL (mL (List.mem_cons_self ..)))));cases h7.symm.trans e1;have hsub:∀a∈Mu,a∈eL:=fun a ha=>if w:a=l then w▸e2 else c3.mo a (bI.mpr ⟨ha,fun q=>w (List.mem_singleton.mp q)⟩)
 rcases Dj hv fr with ⟨rfl,r⟩|⟨val,rfl,r⟩
 ·exact p .none vs' h3 gO kk e3 e4 (e5.sub hsub) (RV.sub hsub r)
 ·exact p val vs' h3 gO kk e3 e4 (e5.sub hsub) (RV.sub hsub r)
end
end
section
structure XR (X:Cx):Prop extends Hy X where
 fe:∀C n K i c it a,(∀pe,bL X C n pe)→vO X C n K a→mP X C n K (.eU i c it a)
 su:∀C n K x elt y it,(∀pe,bL X C n pe)→mP X C n K (.qP x elt y it)
section
variable {X:Cx} {C:Calls} {n K:Nat} (G:Gn X) (H:XR X) (HC:fV X C n) (HI:xu X C n)
include G H HC HI
mutual
theorem KV:∀ps:PS,mP X C n K ps
 |.asg _ _=>Kz (aG G H.toHy HC) (dH G H.toHy HC)
 |.bE _ _=>Aq (dI G H.toHy HC)
 |.l6 _ _=>Fz (aG G H.toHy HC)
 |.aug _ _ _=>KA (aG G H.toHy HC)
 |.app _ _=>KD (aG G H.toHy HC)
 |.zA _=>FA
 |.lE _ _=>De
 |.ie _ _ _=>FE (aG G H.toHy HC)
 |.io _ _ _=>SP G HI (dI G H.toHy HC)
 |.D8 _ _ _ _=>KG G HI (aG G H.toHy HC) (dI G H.toHy HC)
 |.fH _ a b=>KN (dH G H.toHy HC) (iJ a) (iJ b)
 |.zB _ a=>KQ (dH G H.toHy HC) (iJ a)
 |.dW _ _ a=>FI (aG G H.toHy HC) (iJ a)
 |.eU i c it a=>H.fe C n K i c it a (aG G H.toHy HC) (iJ a)
 |.qP x elt y it=>H.su C n K x elt y it (aG G H.toHy HC)
 |.ig a=>KO (iJ a)
 |.ret _=>KH (aG G H.toHy HC)
 |.brk=>KI
 |.cont=>FF
 |.bad=>KJ
theorem iJ:∀UU:List PS,vO X C n K UU
 |[]=>KL
 |a::r=>FG (KV a) (iJ r)
end
end
theorem Ik {X:Cx} {T:Nat→Option FD} {K:Nat} (G:Gn X) (H:XR X) (HF:∀f d,T f=some d→uS X f d):∀n,fV X (lv T K n) n∧xu X (lv T K n) n
 |0=>⟨fun f vs ks v hc=>by simp [lv] at hc,fun f xs args v xs' hc=>by simp [lv] at hc⟩
 |n+1=>by obtain ⟨h1,h2⟩:=Ik G H HF n;have SS:∀body,vO X (lv T K n) n K body:=fun body=>iJ G H h1 h2 body;exact ⟨Au G HF SS,FP G HF SS⟩
end
section
section
variable {X:Cx} {C:Calls} {n K:Nat}
theorem XS {b x:Addr} {P:Prop} (h:x∈[a,b]) (k1:x=a→P) (k2:x=b→P):P:=(List.mem_cons.mp h).elim k1 fun h=>k2 (List.mem_singleton.mp h)
theorem Av {h1:Heap} {ts:List Expr} {tj:Nat} {tp:Pos} (hh:A.handled=none) (hl:h1.IsList la vs.toArray) (KU:la∉Mu) (rr:aE X h1 Mu xs vs):
  SQ X A (.Tuple ts tj tp) (h1.objs.size+1) [h1.objs.size,h1.objs.size+1] h1 Mu (xs.zipIdx.map fun p=>V.tup [.int p.2,p.1]) (fun j g=>(∃old,IsEnum g (h1.objs.size+1) h1.objs.size (j:Int) old)∧g.IsListIter h1.objs.size la j∧g.IsList la vs.toArray):=by
 have hla:h1.get? la≠none∧la<h1.objs.size:=by obtain ⟨o,e,_⟩:=hl;exact ⟨fun z=>(nomatch z.symm.trans e),Heap.lt_size e⟩
 have hlW:la∉[h1.objs.size,h1.objs.size+1]:=fun q=>XS q (Nat.ne_of_lt hla.2) (Nat.ne_of_lt (Nat.lt_succ_of_lt hla.2));have m1:h1.objs.size∈[h1.objs.size,h1.objs.size+1]:=List.mem_cons_self ..;have m2:h1.objs.size+1∈[h1.objs.size,h1.objs.size+1]:=List.mem_cons_of_mem _ (List.mem_cons_self ..);have len:(xs.zipIdx.map fun p=>V.tup [.int p.2,p.1]).length=vs.length:=by rw [List.length_map,List.length_zipIdx,rr.length]
 refine ⟨fun j g g' ⟨⟨old,q1⟩,⟨o,q2,q3⟩,⟨o',q4,q5⟩⟩ hk=>⟨⟨old,hk _ _ (.inl m2) q1⟩,⟨o,hk _ _ (.inl m1) q2,q3⟩,⟨o',hk _ _ (.inr ⟨hla.1,KU⟩) q4,q5⟩⟩,
  fun j g ⟨⟨old,q1⟩,⟨o,q2,q3⟩,_⟩ b hb=>XS hb (fun e=>⟨o,e▸q2⟩) fun e=>⟨_,e▸q1⟩,fun j s E N R hj ⟨⟨old,SV⟩,U3,U4⟩ k=>?_,fun s E N R ⟨⟨old,SV⟩,U3,U4⟩ k=>?_⟩
 ·have XT:j<vs.length:=len▸hj;have hjx:j<xs.length:=rr.length▸XT;refine wpAny_pyNext_enum_item SV U3 U4 (x:=vs[j]) (by rw [List.getElem?_toArray];exact List.getElem?_eq_getElem XT) (Nat.ne_of_gt (Nat.lt_succ_self _)) fun g1 hEo XU hT1 hsz1 hk1=>?_;have hgl:h1.objs.size+1<s.heap.objs.size:=Heap.lt_size SV;refine wpAny_letOwnedTupleGo_enum hEo fun g2 hE2 hs2=>?_;have hk2:∀b o,b∉[h1.objs.size,h1.objs.size+1]→s.heap.get? b=some o→g2.get? b=some o:=fun b o hb e=>(hs2.2 b fun q=>hb (q▸m2)).trans (hk1 b o (fun q=>hb (q▸m2)) (fun q=>hb (q▸m1)) e);refine k (.ref s.heap.objs.size) g2 _ ⟨⟨_,hE2⟩,?_,U4.at fun o e=>hk2 la o hlW e⟩ hk2 fun qz h3 h4 h5=>?_
  ·obtain ⟨o,e,r⟩:=XU;exact ⟨o,(hs2.2 _ (Nat.ne_of_lt (Nat.lt_succ_self _))).trans e,r⟩
  ·rw [List.getElem_map,List.getElem_zipIdx,Nat.zero_add];obtain ⟨u,hu,ru⟩:=rr.get (List.getElem?_eq_getElem hjx);rw [List.getElem?_eq_getElem XT] at hu;cases hu;refine ⟨s.heap.objs.size,[.int j _,vs[j]],rfl,fun q=>?_,⟨_,(hs2.2 _ (Nat.ne_of_gt hgl)).trans hT1,rfl,0,rfl⟩,(by decide:(2:Nat)≤16777216),aE.cons ⟨_,rfl⟩ (aE.one (RV.move h3 h4 ru))⟩;obtain ⟨o,e⟩:=h5 _ q;exact Nat.lt_irrefl _ (Heap.lt_size e)
 ·rw [len] at U3 SV;refine wpAny_pyNext_enum_end hh SV U3 U4 (by rw [List.getElem?_toArray];exact List.getElem?_eq_none (Nat.le_refl _)) fun g1 hk1=>?_;exact k g1 _ fun b o hb e=>hk1 b o (fun q=>hb (q▸m1)) e
theorem xx (G:Gn X) {a:List PS} (EV:∀pe,bL X C n pe) (ha:vO X C n K a):mP X C n K (.eU i c it a):=by
 intro cs env m ow Mu s A E Q fl m' st F ok hm he p;refine pF (P:=fun st=>wpAny _ A (exec st env) Q E s) hm fun ts tj tp np l pos x pp mt hg me UW ma=>ob he fun vv Ag he=>ob he fun xs hxs he=>?_;refine wpAny_For (wpAny_Call_NameR (ez G F.toFM rfl hg (by decide) (.inr (G.ty "enumerate" (by decide))) ?_)) (fun x=>rfl);rw [eH UW];refine PyProof.Rows.callWith_type rfl (evalArgs_plain (spliced_cons (EV it env m ow Mu s A E _ _ l F.toFM ok me Ag fun val h1 qf k1 r1=>spliced_nil (wA hxs r1 fun la vs KU hl hz rr=>?_))));have F1:=F.kp k1;refine call_enumerate_list hl fun h2 hE0 hI0 hsz2 hk2=>wpAny_pyIter_enum hE0 ?_;refine uR (tg:=.many [i,c]) (St:=fun j g=>(∃old,IsEnum g (h1.objs.size+1) h1.objs.size (j:Int) old)∧g.IsListIter h1.objs.size la j∧g.IsList la vs.toArray) (W:=[h1.objs.size,h1.objs.size+1])
  ha ok mt ma F1 (Ext.refl _ _) (Av ok.1 hl KU rr) (fun b hb=>aM (XS hb (fun e=>e▸Nat.le_refl _) fun e=>e▸Nat.le_succ _)) hk2 ⟨⟨_,hE0⟩,hI0,hl.at fun o e=>hk2 _ _ e⟩ he p
end
end
theorem qC:Manifest.owners.lookup (String.ofList ['p','a','m'].reverse)=some Manifest.sig_map:=by kernel_rfl
theorem pG:Slot "map" "__init__" "object.__init__":=
 .of (owner:="object") (n:="__init__") (by rw [typeLookup_type,builtinLookup_eq_fast];kernel_rfl) (by decide+kernel) (by decide+kernel) (by decide+kernel)
  (by first|exact .inl (by decide+kernel)|exact .inr (by decide+kernel)) (by rw [isSubtype_type];kernel_rfl)
theorem jq:Slot "map" "__iter__" "map.__iter__":=
 .of (owner:="map") (n:="__iter__") (by rw [typeLookup_type,builtinLookup_eq_fast];kernel_rfl) (by decide+kernel) (by decide+kernel) (by decide+kernel)
  (by first|exact .inl (by decide+kernel)|exact .inr (by decide+kernel)) (by rw [isSubtype_type];kernel_rfl)
theorem cF:Slot "map" "__next__" "map.__next__":=
 .of (owner:="map") (n:="__next__") (by rw [typeLookup_type,builtinLookup_eq_fast];kernel_rfl) (by decide+kernel) (by decide+kernel) (by decide+kernel)
  (by first|exact .inl (by decide+kernel)|exact .inr (by decide+kernel)) (by rw [isSubtype_type];kernel_rfl)
theorem iK:entryFor table "map.__next__"=some Builtin.«map.__next__»:=entryFor_of_tree (by kernel_rfl)
theorem jr (a:Value):argsOk "map.__next__" ⟨[a],[]⟩:=by unfold argsOk;rw [signature?_of (id:="map.__next__") (n:=['_','_','t','x','e','n','_','_']) (o:=['p','a','m']) (by kernel_rfl) qC];kernel_rfl
theorem pH (a:Value):argsOk "map.__iter__" ⟨[a],[]⟩:=by unfold argsOk;rw [signature?_of (id:="map.__iter__") (n:=['_','_','r','e','t','i','_','_']) (o:=['p','a','m']) (by kernel_rfl) qC];kernel_rfl
theorem n9:entryFor table "map.__iter__"=some Builtin.«dict_keyiterator.__iter__»:= entryFor_alias (id':="dict_keyiterator.__iter__") (by kernel_rfl) (by first|rfl|decide+kernel|(unfold String.splitOn;simp+decide [String.splitOnAux])) (by decide+kernel) (by kernel_rfl)
theorem y9:mroOf (.type "map")=pure [.type "map",.type "object"]:=by rw [mroOf_type];kernel_rfl
theorem oh:typeLookup (.type "map") "__new__"=pure (some (.builtin "map.__new__")):=by rw [typeLookup_type,builtinLookup_eq_fast];kernel_rfl
theorem xy:TypeCalled "map" "map.__new__" "object.__init__":= ⟨by decide+kernel,by decide+kernel,⟨_,_,y9⟩,madeBy_type y9 oh (by decide+kernel),by decide+kernel,by rw [isSubtype_type];kernel_rfl,pG⟩
theorem oj (a b:Value):checkTypeCall "map" ⟨[a,b],[]⟩=pure ():=by kernel_rfl
theorem pI (a b:Value):checkBuiltinCall "map.__new__" ⟨[.type "map",a,b],[]⟩=pure ():=by kernel_rfl
theorem pJ:entryFor table "map.__new__"=some Builtin.«map.__new__»:=entryFor_of_tree (by kernel_rfl)
theorem FQ:isSubtype (.type "map") (.type "map")=pure true:=by rw [isSubtype_type];kernel_rfl
theorem Aw:typeLookup (.type "map") "__len__"=pure none:=by rw [typeLookup_type,builtinLookup_eq_fast];kernel_rfl
theorem xA:typeLookup (.type "map") "__length_hint__"=pure none:=by rw [typeLookup_type,builtinLookup_eq_fast];kernel_rfl
noncomputable abbrev za (h:Heap) (l:Addr):Heap:=h.push {cls:=.type "list_iterator",data:=.fields #[.ref l,.int 0 0]}
noncomputable abbrev zb (h:Heap) (l:Addr):Heap:=(za h l).push {cls:=.type "tuple",data:=.seq #[.ref h.objs.size]}
noncomputable abbrev uW (h:Heap) (l:Addr) (f:Value):Heap:=(zb h l).push {cls:=.type "map",data:=.fields #[.ref (za h l).objs.size,f]}
theorem pK (f:Value) (l:Addr) (xs:Array Value):
  Meets (Builtin.«map.__new__» ⟨[.type "map",f,.ref l],[]⟩) (fun _ R s=>s.heap.IsList l xs∧
   R (.ok (.ret (.ref (zb s.heap l).objs.size))) {s with heap:=uW s.heap l f}):=
 .of_wp fun prog w A R s h=>by obtain ⟨hp,g,d,tk,os⟩:=s;obtain ⟨hl,h⟩:=h;have hsub:=FQ;have hL1:Heap.IsList (Shared.heap ⟨hp,g,d,tk,os⟩) l xs:=hl;wp_walk using wpAny_pyIter_list hL1;exact ⟨_,rfl,h⟩
section
noncomputable abbrev oq (h:Heap) (z T:Addr) (f:Value):Prop:= h.get? z=some {cls:=.type "map",dict:=none,data:=.fields #[.ref T,f],slots:=#[]}
noncomputable abbrev qD (h:Heap) (T:Addr) (a:Value):Prop:=h.get? T=some {cls:=.type "tuple",data:=.seq #[a]}
section
variable {prog:Program} {w:World} {A:Around} {E:Value→Shared→Prop} {s:Shared}
theorem pL {T it:Addr} {k:Nat} {xs:Array Value} {x f:Value}
  (hz:oq s.heap z T f) (hT:qD s.heap T (.ref it)) (h1:s.heap.IsListIter it l k) (hl:s.heap.IsList l xs) (hx:xs[k]?=some x) (XW:z≠it) (hit:T≠it)
  (hQ:∀h',h'.IsListIter it l (k+1)→Heap.SameBut it s.heap h'→wpAny (model prog w) A (call f [x]) Q E {s with heap:=h'}):
  wpAny (model prog w) A (Builtin.«map.__next__» ⟨[.ref z],[]⟩) (fun fin s'=>∃v,fin=.done (.ret v)∧Q v s') E s:=by
 show wpAny _ _ (field (.ref z) 0>>=_) _ _ _;refine wpAny_bind (wpAny_field hz rfl (x:=.ref T) rfl ?_);refine wpAny_bind (wpAny_seqItems hT rfl ?_);show wpAny _ _ (forIn #[Value.ref it] (#[]:Array Value) _>>=_) _ _ _;rw [←Array.forIn_toList];simp only [List.forIn_cons,List.forIn_nil];refine wpAny_bind (wpAny_bind (wpAny_bind (wpAny_holding ?_)));refine wpAny_nextOf_list_item h1 hl hx fun h₂ h1₂ hs₂=>?_;refine wpAny_pure (wpAny_pure ?_);show wpAny _ _ (field (.ref z) 1>>=_) _ _ _;refine wpAny_bind (wpAny_field ((hs₂.2 z XW).trans hz) rfl (x:=f) rfl ?_);refine wpAny_bind (wpAny_holding ?_);refine wpAny_mono (hQ h₂ h1₂ hs₂) (fun v s' q=>?_) fun _ _ x=>x;refine wpAny_bind (wpAny_letGo ?_);exact wpAny_pure ⟨v,rfl,q⟩
theorem sY {T it:Addr} {k:Nat} {xs:Array Value} {f:Value} {Q:Fin→Shared→Prop} (hh:A.handled=none)
  (hz:oq s.heap z T f) (hT:qD s.heap T (.ref it)) (h1:s.heap.IsListIter it l k) (hl:s.heap.IsList l xs) (hx:xs[k]?=none)
  (hE:∀h' e,Heap.ExtBut it s.heap h'→(∃o,h'.get? e=some o∧o.cls=.type "StopIteration")→E (.ref e) {s with heap:=h'}):
  wpAny (model prog w) A (Builtin.«map.__next__» ⟨[.ref z],[]⟩) Q E s:=by
 show wpAny _ _ (field (.ref z) 0>>=_) _ _ _;refine wpAny_bind (wpAny_field hz rfl (x:=.ref T) rfl ?_);refine wpAny_bind (wpAny_seqItems hT rfl ?_);show wpAny _ _ (forIn #[Value.ref it] (#[]:Array Value) _>>=_) _ _ _;rw [←Array.forIn_toList];simp only [List.forIn_cons,List.forIn_nil];refine wpAny_bind (wpAny_bind (wpAny_bind (wpAny_holding ?_)));exact wpAny_nextOf_list_end hh h1 hl hx hE
theorem gV {T it:Addr} {k:Nat} {xs:Array Value} {x f:Value} {Q:Option Value→Shared→Prop}
  (hz:oq s.heap z T f) (hT:qD s.heap T (.ref it)) (h1:s.heap.IsListIter it l k) (hl:s.heap.IsList l xs) (hx:xs[k]?=some x) (XW:z≠it) (hit:T≠it)
  (hQ:∀h' E',h'.IsListIter it l (k+1)→Heap.SameBut it s.heap h'→wpAny (model prog w) A.in1 (call f [x]) (fun v s'=>Q (some v) s') E' {s with heap:=h'}):
  wpAny (model prog w) A (pyNext (.ref z)) Q E s:=by
 have hTy:s.TypeIs (.ref z) "map":=⟨_,hz,rfl⟩;unfold pyNext
 exact wpAny_bind (wpAny_attempt (wpAny_callSpecial?_slot (name:=Str.ofString "__next__") hTy cF
  (wpAny_call_entry cF hTy iK
   (pL hz hT h1 hl hx XW hit fun h' a1 a2=>wpAny_mono (hQ h' _ a1 a2) (fun v s' q=>wpAny_pure q) fun _ _ x=>x) (jr _))))
theorem iL {T it:Addr} {k:Nat} {xs:Array Value} {f:Value} {Q:Option Value→Shared→Prop} (hh:A.handled=none)
  (hz:oq s.heap z T f) (hT:qD s.heap T (.ref it)) (h1:s.heap.IsListIter it l k) (hl:s.heap.IsList l xs) (hx:xs[k]?=none)
  (hQ:∀h',Heap.ExtBut it s.heap h'→Q none {s with heap:=h'}):
  wpAny (model prog w) A (pyNext (.ref z)) Q E s:=by
 have hTy:s.TypeIs (.ref z) "map":=⟨_,hz,rfl⟩;unfold pyNext
 refine wpAny_bind (wpAny_attempt (wpAny_callSpecial?_slot (name:=Str.ofString "__next__") hTy cF
  (wpAny_call_entry cF hTy iK (sY hh hz hT h1 hl hx fun h' e hk he=>?_) (jr _))))
 obtain ⟨o,ho,hc⟩:=he;refine wpAny_bind (wpAny_isInstance (T:="StopIteration") (b:=true) ⟨o,ho,hc⟩ isSubtype_stop ?_);exact wpAny_pure (hQ _ hk)
theorem lu {T:Addr} {f:Value} (hz:oq s.heap z T f) (h:Q (.ref z) s):wpAny (model prog w) A (pyIter (.ref z)) Q E s:=by have hT:s.TypeIs (.ref z) "map":=⟨_,hz,rfl⟩;refine wpAny_pyIter_slot hT jq (wpAny_call_entry jq hT n9 ?_ (pH _));show wpAny _ _ (ret (.ref z)) _ _ s;exact wpAny_pure ⟨_,rfl,"map",_,hT,cF.lookup,h⟩
theorem xB {xs:Array Value} {f:Value} (hl:s.heap.IsList l xs)
  (h:∀h',oq h' (s.heap.objs.size+2) (s.heap.objs.size+1) f→qD h' (s.heap.objs.size+1) (.ref s.heap.objs.size)→h'.IsListIter s.heap.objs.size l 0→
   h'.objs.size=s.heap.objs.size+3→(∀c o,s.heap.get? c=some o→h'.get? c=some o)→Q (.ref (s.heap.objs.size+2)) {s with heap:=h'}):
  wpAny (model prog w) A (call (.type "map") [f,.ref l]) Q E s:=by
 refine callType_new xy (by decide) (oj _ _) (pI _ _) (fun obj=>F.args_object_init_3 obj _ _) pJ
  (pK f l xs) ⟨hl,?_⟩
 have z1:(za s.heap l).objs.size=s.heap.objs.size+1:=Heap.size_push ..;have z2:(zb s.heap l).objs.size=s.heap.objs.size+2:=by rw [Heap.size_push,z1]
 have z3:(uW s.heap l f).objs.size=s.heap.objs.size+3:=by rw [Heap.size_push,z2]
 have g3:(uW s.heap l f).get? (zb s.heap l).objs.size=some _:=Heap.get?_push_size _ rfl;have g2:(uW s.heap l f).get? (za s.heap l).objs.size=some _:=Heap.get?_push_of_some _ (Heap.get?_push_size _ rfl);have g1:(uW s.heap l f).get? s.heap.objs.size=some _:=Heap.get?_push_of_some _ (Heap.get?_push_of_some _ (Heap.get?_push_size _ rfl));show _∧_;rw [z1,z2] at g3;rw [z1] at g2;rw [z2];exact ⟨⟨_,g3,rfl⟩,h _ g3 g2 ⟨_,g1,rfl,rfl⟩ z3 fun c o x=>Heap.get?_push_of_some _ (Heap.get?_push_of_some _ (Heap.get?_push_of_some _ x))⟩
end
end
section
section
variable {prog:Program} {w:World} {A:Around} {E:Value→Shared→Prop} {s:Shared} {I:Addr} {fp wr:List Addr} {G:Array GenState→Array GenState→Prop} {n:Nat} {P:Nat→Value→Prop} {St:Nat→Shared→Prop}
theorem uX {Q:List Value→Shared→Prop} (W:WalksS prog w A.in1 I fp wr G n P St) (hT:∀i s,St i s→s.TypeIs (.ref I) "map") (hst:St 0 s) (hfp:∀b∈fp,b<s.heap.objs.size) (hI:I∈fp)
  (hQ:∀s' acc,Moved wr G s s'→ItemsOf P acc n→Q acc.toList s') (hn:n≤sizeLine):wpAny (model prog w) A (collect (.ref I)) Q E s:=by
 have hSf:s.heap.objs.size∉fp:=fun hm=>Nat.lt_irrefl _ (hfp _ hm);have hSI:s.heap.objs.size≠I:=fun e=>hSf (e▸hI);unfold collect;refine wpAny_bind (wpAny_runValue (codeAny_builtin F.entry_proto_collect ?_));rw [Around.under_plainId F.plain_proto_collect _];show wpAny _ A.in1 (newList []>>=fun l=>again (.builtin "list.__iadd__" ⟨[l,.ref I],[]⟩)) _ _ s;refine wpAny_bind (wpAny_newObj_type ?_);refine wpAny_pure ⟨plainId_quiet F.plain_list_iadd _,codeAny_builtin F.entry_list_iadd ?_⟩;rw [Around.under_plainId F.plain_list_iadd _];have Dk:=W.frame 0 s (s.heap.push {cls:=.type "list",data:=.seq ([]:List Value).toArray}) s.toks hst (Nat.le_refl _) fun b _ o e=>Heap.get?_push_of_some _ e;show wpAny _ A.in1 (Builtin.List.listExtendWith (.ref s.heap.objs.size) (.ref I) (.ref s.heap.objs.size)) _ _ _;unfold Builtin.List.listExtendWith;refine wpAny_bind (wpAny_typeOf (hT 0 _ Dk) ?_);have h1:Builtin.List.listSameRef (.ref s.heap.objs.size) (.ref I)=false:=by simp [Builtin.List.listSameRef,hSI]
 have h2:(Value.type "map"==Value.type "list")=false:=by decide
 have h3:(Value.type "map"==Value.type "tuple")=false:=by decide
 simp only [h1,h2,h3,Bool.or_false,Bool.false_eq_true,if_false];refine wpAny_bind (W.self 0 _ _ _ Dk ?_);refine wpAny_bind (wpAny_holding ?_);unfold Builtin.List.listLengthHint;refine wpAny_bind (wpAny_specialOf (hT 0 _ Dk) Aw ?_);show wpAny _ A.in1 (specialOf (Value.ref I) (Str.ofString "__length_hint__")>>=_) _ _ _;refine wpAny_bind (wpAny_specialOf (hT 0 _ Dk) xA ?_);refine wpAny_pure ?_;show wpAny _ A.in1 (rule "list.extend.makes-room">>=fun _=>Builtin.List.listTouch (.ref s.heap.objs.size)>>=fun _=> again (.builtin "list.extend.loop" ⟨[.ref s.heap.objs.size,.ref I,.ref s.heap.objs.size],[]⟩)) _ _ _;refine wpAny_bind (wpAny_rule ?_);have hS₁:(s.heap.push {cls:=.type "list",data:=.seq ([]:List Value).toArray}).get? s.heap.objs.size=some {cls:=.type "list",data:=.seq ([]:List Value).toArray}:=Heap.get?_push_size _ rfl;refine wpAny_bind ?_;show wpAny _ A.in1 (updateSeq s.heap.objs.size (·.push .none)>>=fun _=>updateSeq s.heap.objs.size (·.pop)) _ _ _;refine wpAny_bind (wpAny_updateSeq hS₁ rfl ?_);have hS₂:=Heap.get?_update_self (Obj.mapSeq (·.push Value.none)) hS₁ rfl;refine wpAny_updateSeq hS₂ rfl ?_;have hS₃:=Heap.get?_update_self (Obj.mapSeq (·.pop)) hS₂ rfl;have oth:∀b o,b≠s.heap.objs.size→(s.heap.push {cls:=.type "list",data:=.seq ([]:List Value).toArray}).get? b=some o→
   (((s.heap.push {cls:=.type "list",data:=.seq ([]:List Value).toArray}).update s.heap.objs.size (Obj.mapSeq (·.push Value.none))).update s.heap.objs.size (Obj.mapSeq (·.pop))).get? b=some o:=
  fun b o hb e=>(Heap.get?_update_other _ _ (Ne.symm hb)).trans ((Heap.get?_update_other _ _ (Ne.symm hb)).trans e)
 refine wpAny_pure ⟨plainId_quiet F.plain_extend_loop _,codeAny_extend_loopS W hn _ hSf _ n 0 _ _ _ rfl (Nat.zero_le _)
  (W.frame 0 ({s with heap:=s.heap.push {cls:=.type "list",data:=.seq ([]:List Value).toArray}}:Shared) _ s.toks Dk (Nat.le_refl _) fun b hb o e=>oth b o (fun h=>hSf (h▸hb)) e) hS₃ (ItemsOf.nil P) fun s' acc' c' hm hS' hacc=>?_⟩
 show wpAny _ A (load s.heap.objs.size>>=_) _ _ s';refine wpAny_bind (wpAny_load hS' ?_);refine wpAny_pure (hQ s' acc' (Moved.drop_new (o:={cls:=.type "list",data:=.seq ([]:List Value).toArray}) (tk:=s.toks) (Moved.trans W.gtrans ((Moved.refl W.grefl).then_heap (by first|exact Nat.le_refl _|exact Nat.le_succ _|omega) fun b o hb e=>?_) hm) (Nat.le_refl _)) hacc);exact oth b o (fun h=>hb (h▸List.mem_cons_self)) e
theorem ou {Q₁:Value→Shared→Prop} (W:WalksS prog w A.in1.in1 I fp wr G n P St) (hT:∀i s,St i s→s.TypeIs (.ref I) "map") (hst:St 0 s) (hfp:∀b∈fp,b<s.heap.objs.size) (hI:I∈fp)
  (h:∀s' acc,Moved wr G s s'→ItemsOf P acc n→Q₁ (.ref s'.heap.objs.size) {s' with heap:=s'.heap.push {cls:=.type "tuple",data:=.seq acc}}) (hsz:n≤sizeLine):
  codeAny (model prog w) A (.call (.builtin "tuple.__new__") ⟨[.type "tuple",.ref I],[]⟩) (wants Q₁ E) s:=by
 refine codeAny_of_tree ?_;show wpAny _ A.in1 (do checkBuiltinCall "tuple.__new__" ⟨[.type "tuple",.ref I],[]⟩;again (.builtin "tuple.__new__" ⟨[.type "tuple",.ref I],[]⟩)) _ _ s;refine wpAny_bind (wpAny_of_eq (F.newCall_tuple_1 _) (wpAny_pure ⟨plainId_quiet F.plain_tuple_new _,codeAny_builtin F.entry_tuple_new ?_⟩));rw [Around.under_plainId F.plain_tuple_new _];have hsub:=sub_tuple_self;have aak:=init_tuple_lookup;have hmh:=madeHere_tuple;have hTI:=hT 0 s hst;have hx:=fun (Q:List Value→Shared→Prop) (E:Value→Shared→Prop) hQ=>uX (A:=A.in1) (E:=E) (Q:=Q) W hT hst hfp hI hQ hsz;wp_walk using wpAny_typeOf hTI,hx;intro s' acc hm hacc;show wpAny _ _ (Builtin.Tuple.tupleExact acc.toList.toArray>>=fun v=>ret v) _ _ _;unfold Builtin.Tuple.tupleExact;refine wpAny_bind (wpAny_newObj_type ?_ (by show acc.toList.toArray.size≤sizeLine;simp only [Array.toArray_toList];rw [hacc.1];exact hsz));refine wpAny_pure ?_;have e:acc.toList.toArray=acc:=by simp
 rw [e];exact h s' acc hm hacc
theorem oz (W:WalksS prog w A.in1.in1.in1 I fp wr G n P St) (hT:∀i s,St i s→s.TypeIs (.ref I) "map") (hst:St 0 s) (hfp:∀b∈fp,b<s.heap.objs.size) (hI:I∈fp)
  (hQ:∀s' acc,Moved wr G s s'→ItemsOf P acc n→Q (.ref s'.heap.objs.size) {s' with heap:=s'.heap.push {cls:=.type "tuple",data:=.seq acc}}) (hsz:n≤sizeLine):
  wpAny (model prog w) A (call (.type "tuple") [.ref I]) Q E s:=by
 refine callType_codes (Q₁:=fun obj s₁=>s₁.TypeIs obj "tuple"∧Q obj s₁) F.called_tuple (F.typeCall_tuple_1 _) F.entry_object_init
  (ou (hsz:=hsz) W hT hst hfp hI fun s' acc hm hacc=>⟨⟨_,Heap.get?_push_size _ rfl,rfl⟩,hQ s' acc hm hacc⟩) fun obj s₁ h₁=>?_
 exact ⟨h₁.1,F.args_object_init_2 obj _,object_init_meets F.called_tuple.init.lookup F.called_tuple.made (by decide) prog w A.in1 _ s₁ ⟨h₁.1,rfl,h₁.2⟩⟩
end
end
section
theorem RV.s8 {l:List Nat} {v:Value} (r:RV X h Mu (.str l) v):RV X h' eL (.str l) v:=r
theorem i9:∀{xs:List V} {l:List (List Nat)},bJ xs=some l→∀(i:Nat) x,xs[i]?=some x→∃y,x=V.str y
 |[],_,_,_,_,h=>nomatch h
 |v::r,l,e,i,x,h=>ob e fun s h1 e=>om (P:=fun _=>∃y,x=V.str y) e fun _ e=>by
  cases i with
  |zero=>exact jw (P:=fun v=>(v::r)[0]?=some x→_) h1 (fun h=>⟨s,(Option.some.inj h).symm⟩) h
  |succ i=>exact i9 e i x h
theorem kq {α β:Type} {g:α→Option β}:∀{xs:List α} {ys:List β},o7 g xs=some ys→ys.length=xs.length∧∀(i:Nat) x,xs[i]?=some x→∃y,ys[i]?=some y∧g x=some y
 |[],_,e=>os (P:=fun ys=>ys.length=0∧_) e ⟨rfl,fun i x h=>nomatch h⟩
 |a::xs,_,e=>ob e fun y e1 e=>om (P:=fun ys=>ys.length=xs.length+1∧∀(i:Nat) x,(a::xs)[i]?=some x→∃y,ys[i]?=some y∧g x=some y) e fun ys e2=>by
  obtain ⟨l,k⟩:=kq e2;refine ⟨congrArg Nat.succ l,fun i x h=>?_⟩;cases i with
  |zero=>cases h;exact ⟨y,rfl,e1⟩
  |succ i=>exact k i x h
theorem aE.nth (r:aE X h Mu xs vs):vs.length=xs.length∧∀(i:Nat) x,xs[i]?=some x→∃v,vs[i]?=some v∧RV X h Mu x v:=⟨r.length,fun _ _=>r.get⟩
theorem aE.of_get {X:Cx} {h:Heap} {Mu:List Addr}:∀{xs:List V} {vs:List Value},vs.length=xs.length→(∀(i:Nat) x v,xs[i]?=some x→vs[i]?=some v→RV X h Mu x v)→aE X h Mu xs vs
 |[],_,l,_=>List.eq_nil_of_length_eq_zero l
 |_::_,[],l,_=>nomatch l
 |a::xs,v::vs,l,k=>aE.cons (k 0 a v rfl rfl) (aE.of_get (Nat.succ.inj l) fun i x y e1 e2=>k (i+1) x y e1 e2)
section
variable {X:Cx} {C:Calls} {n:Nat}
theorem AB.in4 (ok:AB n A):A.in1.in1.in1.in1.units+20*n+20≤8000:=by have:=ok.2.1;show A.units+1+1+1+1+_+_≤_;exact Qo this
theorem Dl (HC:fV X C n) (ok:J5 n A.in1) (hf:X.mg (fn f)=some (.ref a)) {ys:List V} {lx ly:List (List Nat)}
  (hx:bJ xs=some lx) (hy:o7 (fun x=>C.f f [x] []) xs=some ys) (hys:bJ ys=some ly) {h0:Heap} (k0:Kp X.h₀ h0) (hl:h0.IsList l vs.toArray) (rv:aE X h0 Mu xs vs):
  WalksS X.prog X.w A (h0.objs.size+2) (List.range (h0.objs.size+3)) [h0.objs.size] (fun a b=>b=a) xs.length (fun i v=>∃y,ys[i]?=some y∧RV X h0 [] y v)
   (fun i s=>Kp h0 s.heap∧oq s.heap (h0.objs.size+2) (h0.objs.size+1) (.ref a)∧qD s.heap (h0.objs.size+1) (.ref h0.objs.size)∧s.heap.IsListIter h0.objs.size l i) where
 sub:=fun b hb=>by rw [List.mem_singleton.mp hb];exact List.mem_range.mpr (by exact HG)
 grefl:=fun _=>rfl
 gtrans:=fun _ _ _ h1 h2=>h2.trans h1
 frame:=fun i s h' tk st _ hk=>by
  obtain ⟨k,m,o,it⟩:=st
  refine ⟨fun b ob e=>hk b (List.mem_range.mpr (Nat.lt_of_lt_of_le (Heap.lt_size e) (by exact G5))) ob (k b ob e),hk _ (List.mem_range.mpr (by exact Qp)) _ m,hk _ (List.mem_range.mpr (by exact Qq)) _ o,
   it.at fun o e=>hk _ (List.mem_range.mpr (by exact HG)) o e⟩
 item:=fun i s Q E hi st hQ=>by
  obtain ⟨k,m,o,it⟩:=st;have hxi:xs[i]?=some xs[i]:=List.getElem?_eq_getElem hi;obtain ⟨v,hv,Ui⟩:=rv.nth.2 i _ hxi;obtain ⟨y,hyi,hc⟩:=(kq hy).2 i _ hxi;obtain ⟨z,hz⟩:=i9 hx i _ hxi;obtain ⟨z',hz'⟩:=i9 hys i _ hyi;subst hz';have kk:∀{h':Heap},Heap.SameBut h0.objs.size s.heap h'→Kp h0 h':=fun hs b ob e=>hs.extBut _ _ (Nat.ne_of_lt (Heap.lt_size e)) (k b ob e);refine wpAny_with_toks (Nat.le_refl s.toks) (gV m o it (fN hl fun o e=>k _ o e) (x:=v) (by simpa using hv) (by simp) (by simp) fun h' E' it' hs=>?_);refine HC f [xs[i]] [] _ hc a hf A.in1 E' _ {s with heap:=h'} [] [v] [] ok (fun b ob e=>kk hs b ob (k0 b ob e)) (by simp) (by simp) ⟨v,[],rfl,?_,rfl⟩ rfl fun val h'' tk k2 r htk=>?_
  ·rw [hz] at Ui⊢;exact Ui.s8
  ·refine hQ val _ ⟨_,hyi,r.s8⟩ ⟨fun b ob e=>k2 b ob (kk hs b ob e),k2 _ _ (hs.extBut _ _ (by simp) m),k2 _ _ (hs.extBut _ _ (by simp) o),it'.at fun o e=>k2 _ o e⟩
    ⟨fun b ob hb e=>k2 b ob (hs.extBut _ _ (fun q=>hb (by simp [q])) e),rfl,rfl,rfl,htk⟩
 done:=fun s Q E st hQ=>by
  obtain ⟨k,m,o,it⟩:=st;have hlen:vs.toArray[xs.length]?=none:=by simp [rv.nth.1]
  exact iL ok.1 m o it (fN hl fun o e=>k _ o e) hlen fun h' hs=>hQ _ ⟨fun b ob hb e=>hs _ _ (fun q=>hb (by simp [q])) e,rfl,rfl,rfl,Nat.le_refl _⟩
 self:=fun i s Q E st hQ=>lu st.2.1 hQ
theorem SW (G:Gn X) (HC:fV X C n) {x:PE} (hx:bL X C n x):bL X C n (.gk f x):=by
 intro env m ow Mu s A E Q v e F ok hm he p;refine sd (P:=fun e=>wpAny _ A (eval e env) Q E s) hm fun b c np UO p2 pos hg hg2 mg1 XX mx hs2=>ob he fun vx Ag he=>ob he fun xs hxs he=>ob he fun lx e1 he=>ob he fun ys e2 he=>om (P:=fun v=>Post X Mu s v Q→_) he (fun ly e3 p=>?_) p;obtain ⟨fa,fo,fd,xj,hfo,hfd⟩:=G.Sn f XX;refine wpAny_Call_NameR (ez G F rfl hg (by decide) (.inr (G.ty "tuple" (by decide))) ?_);refine PyProof.Rows.callWith_type rfl (evalArgs_plain (spliced_cons ?_));refine wpAny_Call_NameR (ez G F rfl hg2 (by decide) (.inr (G.ty "map" (by decide))) ?_);rw [eH (xe mg1),eH hs2];refine PyProof.Rows.callWith_type rfl (evalArgs_plain (spliced_cons (sH G F rfl mg1 (.inl xj) (spliced_cons (hx env m ow Mu s A E _ _ c F ok mx Ag fun val h1 qf k1 r1=>spliced_nil (wA hxs r1 fun la vs KU hl hz rr=>?_))))));have F1:=F.kp k1;show wpAny _ _ (call (.type "map") [.ref fa,.ref la]) _ _ _;refine xB hl fun h2 hm2 ho2 hi2 hsz2 hk2=>?_;dsimp only at hm2 ho2 hi2 hsz2 hk2⊢;refine spliced_nil ?_;show wpAny _ _ (call (.type "tuple") [.ref (h1.objs.size+2)]) _ _ _;have hlen:xs.length≤sizeLine:=by rw [←rr.length,av];exact hz
 refine oz (Dl HC (A:=A.in1.in1.in1) ⟨ok.1,ok.in4,ok.2.2⟩ xj e1 e2 e3 F1.hold hl rr)
  (fun i s st=>⟨_,st.2.1,rfl⟩) ⟨hk2,hm2,ho2,hi2⟩ (fun b hb=>by show @LT.lt Nat _ b h2.objs.size;rw [hsz2];exact List.mem_range.mp hb) (List.mem_range.mpr (Nat.lt_succ_self _)) (fun s' acc U5 hacc=>?_) hlen
 obtain ⟨h3,gO,rfl⟩:∃h3 gO,s'={s with heap:=h3,toks:=gO}:=by obtain ⟨a1,a2,a3,a4,a5⟩:=s';cases (U5.gens:a2=_);cases (U5.drawn:a3=_);cases (U5.os:a5=_);exact ⟨a1,a4,rfl⟩
 have k3:Kp h1 h3:=fun b ob e=>U5.heap b ob (fun q=>Nat.ne_of_lt (Heap.lt_size e) (List.mem_singleton.mp q)) (hk2 b ob e);refine p _ _ _ ((k1.trans k3).trans aA) ⟨h3.objs.size,acc.toList,rfl,fun q=>?_,⟨_,Heap.get?_push_size _ rfl,rfl,0,by rw [Array.toArray_toList]⟩,?_,?_⟩
 ·obtain ⟨o,e⟩:=F.ex _ q;exact Nat.lt_irrefl _ (Heap.lt_size (k3 _ _ (k1 _ _ e)))
 ·rw [Array.length_toList,hacc.1,←av];exact hlen
 ·refine aE.of_get (by rw [Array.length_toList,hacc.1,(kq e2).1]) fun i x v q1 q2=>?_;obtain ⟨y,q3,q4⟩:=hacc.2 i v (by rw [←Array.getElem?_toList];exact q2);cases q1.symm.trans q3;obtain ⟨z,rfl⟩:=i9 e3 i _ q1;exact q4.s8
end
end
section
section
variable {prog:Program} {w:World} {A:Around} {E:Value→Shared→Prop} {s:Shared}
noncomputable abbrev fE (b:Bool):Int:=if b then 1 else 0
theorem lU {Q:Int→Shared→Prop} (h:Q (fE b) {s with toks:=s.toks+1}):
  wpAny (model prog w) A (pyHash (.bool b)) Q E s:=by
 have hT:s.TypeIs (.bool b) "bool":=rfl;unfold pyHash;have hv:[Value.bool b].any Value.onHeap=false:=rfl;refine wpAny_bind ?_;rw [cRoomFor,if_neg (by rw [hv];exact Bool.false_ne_true)];refine wpAny_pure ?_;refine wpAny_bind (wpAny_specialOf hT F.slot_bool_hash.lookup ?_);show wpAny _ _ (if (some (Value.builtin "int.__hash__")==some Value.none)=true then _ else _) Q E s;rw [if_neg (by rw [beq_builtin_none];exact Bool.false_ne_true)];refine wpAny_bind (wpAny_specialOf hT F.slot_bool_hash.lookup ?_);show wpAny _ _ (callSpecialIfBoundUnlessNone? (.bool b) "__hash__" _>>=_) Q E s
 refine wpAny_bind (wpAny_callSpecialIfBoundUnlessNone?_slot hT F.slot_bool_hash
  (wpAny_call_entry F.slot_bool_hash hT entry_int_hash
   (show wpAny _ _ (do ret (←mkInt (rawHash (if b then 1 else 0)))) _ _ s from wpAny_ret_mkInt ?_) (args_int_hash _)))
 cases b <;>exact wpAny_pure h
theorem uY {a:Bool} {Q:Bool→Shared→Prop} (h:Q (decide (a=b)) s):wpAny (model prog w) A (eqBool (.bool a) (.bool b)) Q E s:=by
 refine SeqAt.EqAt.bool_bool a b _ _ _ _ ?_;have e:(a==b)=decide (a=b):=by cases a <;>cases b <;>rfl
 rw [e];exact h
end
noncomputable def SX (b:Bool) (v:Value):Bool:=v==.bool b
theorem dJ {v:Value} (h:SX b v=true):v=.bool b:=eq_of_beq h
noncomputable def iM (prog:Program) (w:World):KeyKind prog w Bool where
 is:=SX
 hash:=fE
 inj:=fun v a b h1 h2=>by rw [dJ h1] at h2;have:=dJ h2;injection this
 byValue:=fun k v h=>by rw [dJ h];rfl
 pyHash:=fun hv h=>by rw [dJ hv];exact lU h
 eqBool:=fun hu hv h=>by rw [dJ hu,dJ hv];exact uY h
 «strs»:=fun k x t v h=>by have:=dJ h;cases this
end
section
section
variable {prog:Program} {w:World} {A:Around} {R:Result→Shared→Prop} {s:Shared}
theorem pM (elt target iter:Expr) (scope:Scope) (pos:Pos) (it acc:Value) (env:Env):
  compTurn (.SetComp elt [⟨target,iter,[],0⟩] scope pos) 0 it acc env=(standAt iter.pos>>=fun _=>pyNext it>>=fun r=>match r with
   |none=>pure (.done .next)
   |some v=>letOwnedTupleGo target it v>>=fun _=>assign target env v>>=fun _=> (eval elt env>>=fun x=>standAt elt.pos>>=fun _=>call (.builtin "set.add") [acc,x]>>=fun _=>pure ())>>=fun _=> again (.compLoop (.SetComp elt [⟨target,iter,[],0⟩] scope pos) 0 it acc env)):=by rfl
theorem uZ {target:Expr} {it acc:Value} (I:Nat→Shared→Prop)
  (turn:∀E n s,I n s→wpAny (model prog w) A (pyNext it) (fun r s₁=>match r with
   |none=>R (.ok .next) s₁
   |some v=>wpAny (model prog w) A (letOwnedTupleGo target it v) (fun _ s₁'=>wpAny (model prog w) A (assign target env v) (fun _ s₂=> wpAny (model prog w) A (eval elt env) (fun x s₄=>wpAny (model prog w) A (call (.builtin "set.add") [acc,x]) (fun _ s₅=>∃m,m<n∧I m s₅) E s₄) E s₂) E s₁') E s₁) E s)
  (n:Nat) (h:I n s):
  codeAny (model prog w) A (.compLoop (.SetComp elt [⟨target,iter,[],0⟩] scope pos) 0 it acc env) R s:=by
 refine codeAny_loop rfl I (fun n s hI=>?_) n h;show wpAny _ A ((compTurn (.SetComp elt [⟨target,iter,[],0⟩] scope pos) 0 it acc env).onRaise (fun x=>do noteFrame x env;theTreesLotGoes x)) _ _ s;refine wpAny_noted ?_;rw [pM];refine wpAny_bind (wpAny_standAt (wpAny_bind (wpAny_mono (turn _ n s hI) (fun r s₁ h₁=>?_) fun _ _ h'=>h')));cases r with
 |none=>exact wpAny_pure h₁
 |some v=> refine wpAny_bind (wpAny_mono h₁ (fun _ s₁' h₁'=>?_) fun _ _ h'=>h');refine wpAny_bind (wpAny_mono h₁' (fun _ s₂ h₂=>?_) fun _ _ h'=>h');refine wpAny_bind (wpAny_bind (wpAny_mono h₂ (fun x s₄ h₄=>?_) fun _ _ h'=>h'));exact wpAny_bind (wpAny_standAt (wpAny_bind (wpAny_mono h₄ (fun _ s₅ h₅=>wpAny_pure (wpAny_pure ⟨rfl,h₅⟩)) fun _ _ h'=>h')))
theorem pN {elt target iter ifs rest scope pos it acc env}
  (h0:codeAny (model prog w) A (.compLoop (.SetComp elt (⟨target,iter,ifs,0⟩::rest) scope pos) 0 it acc env) R s)
  (h:wpAny (model prog w) A (pyIter it) (fun it' s'=>codeAny (model prog w) A (.compLoop (.SetComp elt (⟨target,iter,ifs,0⟩::rest) scope pos) 0 it' acc env) R s')
   (notedBy (model prog w) A env fun x s'=>R (.error x) s') s):
  codeAny (model prog w) A (.compStart (.SetComp elt (⟨target,iter,ifs,0⟩::rest) scope pos) 0 it acc env) R s:=by
 refine codeAny_of_tree ?_;show wpAny _ _ ((compStart (.SetComp elt (⟨target,iter,ifs,0⟩::rest) scope pos) 0 it acc env).onRaise (fun x=>do noteFrame x env;standAt theWindowsPlace)) _ _ s;refine wpAny_notedAt ?_;unfold compStart;show wpAny _ _ (ask>>=_) _ _ s;refine wpAny_bind (wpAny_askSetting (wpAny_ite ?_));split
 ·first
   |exact wpAny_bind (wpAny_pure (wpAny_pure (And.intro rfl h0)))
   |exact wpAny_pure (And.intro rfl h0)
 ·first
   |exact wpAny_bind (wpAny_rule (wpAny_bind (wpAny_standAt (wpAny_bind (wpAny_mono h (fun it' s' h'=>wpAny_pure (And.intro rfl h')) fun _ _ x=>x)))))
   |(refine wpAny_bind (wpAny_rule ?_);show wpAny _ _ (standAt iter.pos>>=_) _ _ s;exact wpAny_bind (wpAny_standAt (wpAny_bind (wpAny_mono h (fun it' s' h'=>wpAny_pure (And.intro rfl h')) fun _ _ x=>x))))
end
end
section
noncomputable abbrev gg (w:World):Bool:=!(w.params.followText "set-order")
noncomputable abbrev u0 (led:Bool) (j:Nat):SetTable:={mask:=7,place:=#[j],dummies:=#[],finger:=0,led,moves:=0,plain:=true}
noncomputable abbrev jB (b:Bool):Nat:=if b then 1 else 0
noncomputable abbrev u5 (w:World):Obj:={cls:=.type "set",dict:=none,data:=.set #[] 0 (.fresh 0 0 (gg w))}
noncomputable abbrev fk (w:World) (b:Bool) (ep:Nat):Obj:={cls:=.type "set",dict:=none,data:=.set #[(fE b,.bool b)] ep (u0 (gg w) (jB b))}
noncomputable def BS (w:World) (h:Heap) (D:Addr) (b:Bool) (i:Nat):Prop:=(i=0∧h.get? D=some (u5 w))∨(i≠0∧∃ep,h.get? D=some (fk w b ep))
theorem BS.at (x:BS w h D b i) (k:∀o,h.get? D=some o→h'.get? D=some o):BS w h' D b i:=by
 rcases x with ⟨e,q⟩|⟨e,ep,q⟩
 ·exact .inl ⟨e,k _ q⟩
 ·exact .inr ⟨e,ep,k _ q⟩
theorem xC (b led:Bool):layNew (.fresh 0 0 led) #[] (fE b) (.bool b)=(#[(fE b,.bool b)],u0 led (jB b),false,false):=by cases b <;>cases led <;>rfl
section
variable {prog:Program} {w:World} {A:Around} {E:Value→Shared→Prop} {s:Shared}
theorem add_one (hS:BS w s.heap D b i)
  (h:∀h' tk,Heap.SameBut D s.heap h'→BS w h' D b (i+1)→Q .none {s with heap:=h',toks:=tk}):
  wpAny (model prog w) A (call (.builtin "set.add") [.ref D,.bool b]) Q E s:=by
 have hT:s.TypeIs (.ref D) "set":=by rcases hS with ⟨_,q⟩|⟨_,ep,q⟩ <;>exact ⟨_,q,rfl⟩
 refine wpAny_call_entry F.slot_set_add hT F.entry_set_add ?_ (F.args_set_add_2 _ _);unfold Builtin.«set.add» Builtin.Frozenset.oneOther;simp only [List.isEmpty_nil,bind_assoc];unfold Builtin.Frozenset.addrOf setAdd;refine wpAny_bind (wpAny_pure ?_)
 try dsimp only
 refine wpAny_bind (wpAny_pure ?_)
 try dsimp only
 refine wpAny_bind ?_;refine wpAny_holding ?_;refine wpAny_bind (lU ?_);unfold setAddHashed setAddHashedIn;refine wpAny_holding ?_;rcases hS with ⟨rfl,q⟩|⟨hi,ep,q⟩
 ·refine wpAny_bind (wpAny_setState_of q rfl (by rfl) ?_);dsimp only;rw [show byScan (.bool b) #[]=true from by cases b <;>decide+kernel];simp only [↓reduceIte];unfold setAddByScan;refine wpAny_bind ?_;refine wpAny_bind (wpAny_rule ?_);refine wpAny_bind (m:=setScan _ _ _ _ _) (wpAny_pure ?_);dsimp only;rw [xC];dsimp only;refine wpAny_bind (wpAny_pure ?_);rw [if_pos rfl,hashByValue_scannable 8 rfl];refine wpAny_bind (wpAny_pure ?_);show wpAny _ _ (storeSet D #[(fE b,Value.bool b)] (u0 (gg w) (jB b))>>=fun _=>pure (some true)) _ _ _;refine wpAny_bind (wpAny_storeSet_of q rfl ?_ (by simp [av]));refine wpAny_pure ?_;refine wpAny_pure (wpAny_pure ⟨_,rfl,?_⟩);have hg:(s.heap.update D (Obj.putSet #[(fE b,.bool b)] (u0 (gg w) (jB b)))).get? D=some (fk w b 1):=by have:=Heap.get?_update_self (Obj.putSet #[(fE b,.bool b)] (u0 (gg w) (jB b))) q (by rw [putSet_of _ _ rfl];rfl);rw [putSet_of _ _ rfl] at this;exact this
  exact h _ _ (Heap.SameBut.update ..) (.inr ⟨by simp,1,hg⟩)
 ·refine wpAny_bind (wpAny_setState_of q rfl (by rfl) ?_);dsimp only;rw [show byScan (.bool b) #[(fE b,.bool b)]=true from by cases b <;>decide+kernel];simp only [↓reduceIte];unfold setAddByScan;refine wpAny_bind ?_;refine wpAny_bind (wpAny_rule ?_);refine wpAny_bind (wpAny_setScan_of (knd:=iM prog w) (k:=b) (by simp [iM,SX]) q rfl (by rfl) ?_ ?_)
  ·intro e he;simp only [List.mem_singleton] at he;subst he;exact ⟨⟨b,by simp [iM,SX],rfl⟩,rfl⟩
  ·have e1:List.findIdx? (fun e:Int×Value=>(iM prog w).is b e.2) [(fE b,Value.bool b)]=some 0:=by simp [List.findIdx?_cons,iM,SX]
   rw [e1];dsimp only;refine wpAny_pure (wpAny_pure (wpAny_pure ⟨_,rfl,?_⟩));exact h s.heap _ (Heap.SameBut.refl ..) (.inr ⟨by simp,ep,q⟩)
theorem xD (h:BS w (s.heap.push (u5 w)) s.heap.objs.size true 0→Q (.ref s.heap.objs.size) {s with heap:=s.heap.push (u5 w)}):
  wpAny (model prog w) A (newSet (.type "set")) Q E s:=by
 unfold newSet setsByText;refine wpAny_bind (wpAny_bind (wpAny_askSetting (wpAny_pure ?_)));dsimp only;simp only [newObj];exact wpAny_bind (wpAny_alloc (wpAny_pure (h (.inl ⟨rfl,Heap.get?_push_size _ rfl⟩))))
end
end
section
section
variable {X:Cx} {C:Calls} {n:Nat} {A:Around} {E:Value→Shared→Prop}
inductive Il (X:Cx) (cenv:Env) (m:ao) (ow:Nat→Option Addr) (Mu:List Addr) (Ex:List Str) (D:Addr) (St:Nat→Heap→Prop) (b:Bool) (N:Nat) (hB:Heap) (s:Shared):Nat→Shared→Prop
 |mk (i:Nat) (g:Heap) (tk:Nat) (hi:i≤N) (F:FM X cenv m ow Mu Ex g) (k:Kp hB g) (hD:BS X.w g D b i) (st:St i g):Il X cenv m ow Mu Ex D St b N hB s (N+1-i) {s with heap:=g,toks:=tk}
theorem Dm {target:Expr} {I:Addr} {P:Nat→Value→Prop} {hB:Heap}
  (hel:bL X C n kR) (ok:AB n A) (W:Walks X.prog X.w A I fp [I] xs.length P St) (hst:St 0 s.heap)
  (has:∀i g,St i g→∃o T,g.get? I=some o∧o.cls=.type T∧T∈["list_iterator","tuple_iterator","range_iterator"])
  (C1:∀i x v,xs[i]?=some x→P i v→RV X hB Mu x v) (hlen:xs.length≤16777216)
  (F:FM X cenv m ow Mu Ex s.heap) (Sx:∀cN∈Ex,cN=(".0":Str)∨∃x∈aT tg,nm x=cN) (Sy:∀x∈aT tg,nm x∈Ex)
  (mt:mw cenv.scope tg target=true) (me:mE cenv.scope kR elt=true)
  (hv:∀x∈xs,(bQ m tg x).bind (fun m'=>ev C m' kR)=some (.bool b))
  (Xv:I∈Mu) (Mg:D∈Mu) (Sz:cenv.locals≠I) (Ks:cenv.locals≠D) (SA:I≠D)
  (Mh:∀cN c,cenv.kindOf cN=some .cell∨cenv.kindOf cN=some .free→cenv.cells.lookup cN=some c→c≠I∧c≠D) (hIo:∀x a,ow x=some a→a≠I∧a≠D)
  (hfp:∀b∈fp,¬chg cenv (aT tg) b∧b≠D) (Xw:Kp hB s.heap) (Fq:∀b o,hB.get? b=some o→¬chg cenv (aT tg) b∧b≠I∧b≠D)
  (hD:BS X.w s.heap D b 0)
  (hR:∀h' tk,Kp hB h'→(∃mp,h'.Ns cenv.locals mp)→BS X.w h' D b xs.length→R (.ok .next) {s with heap:=h',toks:=tk}):
  codeAny (model X.prog X.w) A (.compLoop (.SetComp elt [⟨target,iter,[],0⟩] scope pos) 0 (.ref I) (.ref D) cenv) R s:=by
 have ne:∀{a b:Addr},a≠b→a∉[b]:=fun h q=>h (List.mem_singleton.mp q);refine uZ (Il X cenv m ow Mu Ex D St b xs.length hB s) ?_ (xs.length+1) (.mk 0 s.heap s.toks (Nat.zero_le _) F Xw hD hst);intro E' k s' hI;cases hI with|mk i g tk hi Fg kB SD C2=>
 have C0:¬chg cenv (aT tg) D:=fun hb=>hb.elim (fun q=>Ks q.symm) fun ⟨_,_,k1,k2⟩=>(Mh _ _ (.inl k1) k2).2 rfl
 by_cases hlt:i<xs.length
 ·refine W.item i _ _ _ hlt C2 fun v g1 qf hP mq hk1=>?_;obtain ⟨oI,T,SG,Xy,hT⟩:=has _ _ mq;have F1:FM X cenv m ow Mu Ex g1:=Fg.xo [I] hk1 (fun b hb=>List.mem_singleton.mp hb▸Xv) (fun b hb=>by rw [List.mem_singleton.mp hb];exact ⟨_,SG⟩) (ne Sz) (fun cN c q l=>ne (Mh cN c q l).1) (fun x a e=>ne (hIo x a e).1);have SH:Kp hB g1:=fun b o e=>hk1 b o (ne (Fq b o e).2.1) (kB b o e);refine Cz SG Xy hT (ob (hv xs[i] (List.getElem_mem hlt)) fun m' hs h2=>?_);refine iH (s:={s with heap:=g1,toks:=qf}) ok.1 F1 mt hs ((C1 i xs[i] v (List.getElem?_eq_getElem hlt) hP).kp SH) fun g2 lg hk2 F2=>?_;have Kv:FM X cenv m' ow Mu [] g2:=F2.less fun cN hn=>(Sx cN (ff hn).1).elim id fun ⟨x,hx,e⟩=>absurd e ((ff hn).2 x hx);refine hel cenv m' ow Mu _ A _ _ (.bool b) elt Kv ok me h2 fun val g4 Fp k4 r4=>?_;cases (show val=.bool b from r4);refine add_one ((SD.at fun o e=>hk1 D o (ne (Ne.symm SA)) e).at fun o e=>k4 _ _ (hk2 D o C0 e)) fun g5 XE Xu hS5=>?_;have Kw:∀b o,b∉[D]→g4.get? b=some o→g5.get? b=some o:=fun b o hb e=>(Xu.2 b fun q=>hb (List.mem_singleton.mpr q)).trans e;have F5:FM X cenv m' ow Mu [] g5:=(Kv.kp k4).xo [D] Kw (fun b hb=>List.mem_singleton.mp hb▸Mg) (fun b hb=>by rw [List.mem_singleton.mp hb];rcases hS5 with ⟨_,hz⟩|⟨_,_,hz⟩ <;>exact ⟨_,hz⟩) (ne Ks) (fun cN c q l=>ne (Mh cN c q l).2) (fun x a e=>ne (hIo x a e).2)
  exact ⟨xs.length+1-(i+1),Nat.sub_lt_sub_left (Nat.lt_succ_of_lt hlt) (Nat.lt_succ_self i),.mk (i+1) g5 XE hlt (F5.back (fun x hx=>(uP hs x fun q=>hx (Sy x q)).symm) Fg.dom)
   (fun b o e=>Kw b o (ne (Fq b o e).2.2) (k4 _ _ (hk2 b o (Fq b o e).1 (SH b o e)))) hS5 (W.frame _ _ _ mq fun b hb o e=>Kw b o (ne (hfp b hb).2) (k4 _ _ (hk2 b o (hfp b hb).1 e)))⟩
 ·cases Nat.le_antisymm hi (Nat.not_lt.mp hlt);refine W.done _ _ _ C2 fun g1 qf hk1=>?_;obtain ⟨mp,hns⟩:=Fg.ns;exact hR g1 qf (fun b o e=>hk1 b o (ne (Fq b o e).2.1) (kB b o e)) ⟨mp,hns.at fun o e=>hk1 _ o (ne Sz) e⟩ (SD.at fun o e=>hk1 D o (ne (Ne.symm SA)) e)
end
end
section
theorem u7:Manifest.owners.lookup (String.ofList ['r','o','t','a','r','e','t','i','_','t','e','s'].reverse)=some Manifest.sig_set_iterator:=by kernel_rfl
theorem bU:Slot "set_iterator" "__next__" "set_iterator.__next__":=
 .of (owner:="set_iterator") (n:="__next__") (by rw [typeLookup_type,builtinLookup_eq_fast];kernel_rfl) (by decide+kernel) (by decide+kernel) (by decide+kernel)
  (by first|exact .inl (by decide+kernel)|exact .inr (by decide+kernel)) (by rw [isSubtype_type];kernel_rfl)
theorem gh:entryFor table "set_iterator.__next__"=some Builtin.«set_iterator.__next__»:=entryFor_of_tree (by kernel_rfl)
theorem gP (a:Value):argsOk "set_iterator.__next__" ⟨[a],[]⟩:=by unfold argsOk;rw [signature?_of (id:="set_iterator.__next__") (n:=['_','_','t','x','e','n','_','_']) (o:=['r','o','t','a','r','e','t','i','_','t','e','s']) (by kernel_rfl) u7];kernel_rfl
theorem oB:entryFor table "set.__iter__"=some Builtin.«frozenset.__iter__»:= entryFor_alias (id':="frozenset.__iter__") (by kernel_rfl) (by first|rfl|decide+kernel|(unfold String.splitOn;simp+decide [String.splitOnAux])) (by decide+kernel) (by kernel_rfl)
theorem xE (j:Nat):SetTable.below #[j] 0=0:=by simp [SetTable.below,SetTable.below.go]
theorem xF (j:Nat):SetTable.below #[j] (j+1)=1:=by simp [SetTable.below,SetTable.below.go]
noncomputable abbrev vc (slot given:Nat) (D:Addr) (ep:Nat):Obj:={cls:=.type "set_iterator",data:=.fields #[rawInt slot,rawInt given,.ref D,rawInt 1,rawInt ep]}
section
variable {prog:Program} {w:World} {A:Around} {E:Value→Shared→Prop} {s:Shared}
theorem jt (f:Nat→Nat) (x:α):pickOrder f #[x]=#[x]:=by simp [pickOrder,pickOrder.go,Nat.mod_one]
theorem Dn (q:s.heap.get? D=some (fk w b ep))
  (h:Q (.ref s.heap.objs.size) {s with heap:=s.heap.push (vc 0 0 D ep)}):wpAny (model prog w) A (pyIter (.ref D)) Q E s:=by
 have hT:s.TypeIs (.ref D) "set":=⟨_,q,rfl⟩;refine wpAny_pyIter_slot hT F.slot_set_iter (wpAny_call_entry F.slot_set_iter hT oB ?_ (F.args_set_iter_1 _));show wpAny _ _ (Builtin.Frozenset.sizeOf D>>=_) _ _ s;unfold Builtin.Frozenset.sizeOf;refine wpAny_bind (wpAny_bind (wpAny_setEntries_of q rfl rfl (wpAny_pure ?_)));refine wpAny_bind ?_;refine wpAny_bind (wpAny_setState_of q rfl rfl ?_);dsimp only;unfold setsByText;refine wpAny_bind (wpAny_bind (wpAny_askSetting (wpAny_pure ?_)));refine wpAny_pure ?_;have e1:(!(model prog w).w.params.followText "set-order"&&(!(u0 (gg w) (jB b)).plain&&decide ((#[(fE b,Value.bool b)]:Array (Int×Value)).size>1)))=false:=by simp
 refine wpAny_ite_split (fun hc=>?_) fun _=>?_
 ·exact absurd (e1.symm.trans hc) (by simp)
 refine wpAny_bind (wpAny_pure ?_);refine wpAny_bind (wpAny_setEpoch_of q rfl rfl ?_);refine wpAny_bind (wpAny_newObj_type ?_);exact wpAny_pure ⟨_,rfl,"set_iterator",_,⟨_,Heap.get?_push_size _ rfl,rfl⟩,bU.lookup,h⟩
theorem pO {Q:Option (Value×Nat)→Shared→Prop} (q:s.heap.get? D=some (fk w b ep))
  (h:∀k,k=0∨(gg w=true∧k=jB b+1)→(gg w=true→k=jB b+1)→Q (some (.bool b,k)) s):wpAny (model prog w) A (setNext D 0 0 ep) Q E s:=by
 unfold setNext;refine wpAny_bind (wpAny_setState_of q rfl rfl ?_);dsimp only;unfold setsByText;refine wpAny_bind (wpAny_bind (wpAny_askSetting (wpAny_pure ?_)));cases hb:w.params.followText "set-order" with
 |true=> refine wpAny_ite_split (fun _=>?_) fun hc=>absurd hb hc;refine wpAny_ite_split (fun hc=>absurd hc (by simp)) fun _=>?_;refine wpAny_bind ?_;refine wpAny_bind ?_;refine wpAny_setState_of q rfl rfl ?_;dsimp only;unfold setsByText;refine wpAny_bind (wpAny_bind (wpAny_askSetting (wpAny_pure ?_)));refine wpAny_ite_split (fun _=>?_) fun hc=>absurd hb hc;refine wpAny_bind (wpAny_askSetting (wpAny_pure ?_));rw [jt];refine wpAny_pure ?_;exact h 0 (.inl rfl) (by simp [gg,hb])
 |false=>
  refine wpAny_ite_split (fun hc=>absurd hc (by rw [show (model prog w).w.params.followText "set-order"=false from hb];simp)) fun _=>?_;refine wpAny_ite_split (fun hc=>absurd (show (!(u0 (gg w) (jB b)).plain&&decide ((#[(fE b,Value.bool b)]:Array (Int×Value)).size>1))=true from hc) (by simp)) fun _=>?_;refine wpAny_bind ?_;have hl:gg w=true:=by simp [gg,hb]
  show wpAny _ _ (if (!(gg w)&&!(#[(fE b,Value.bool b)]:Array (Int×Value)).isEmpty)=true then unsupported "set:maker-not-led" else pure ()) _ _ _;rw [hl];refine wpAny_pure ?_;refine wpAny_pure ?_;rw [xE];exact h _ (.inr ⟨hl,rfl⟩) fun _=>rfl
theorem s9 {k:Nat} {Q:Option (Value×Nat)→Shared→Prop} (q:s.heap.get? D=some (fk w b ep)) (hk:gg w=true→k=jB b+1)
  (h:Q none s):wpAny (model prog w) A (setNext D k 1 ep) Q E s:=by
 unfold setNext;refine wpAny_bind (wpAny_setState_of q rfl rfl ?_);dsimp only;unfold setsByText;refine wpAny_bind (wpAny_bind (wpAny_askSetting (wpAny_pure ?_)));cases hb:w.params.followText "set-order" with
 |true=> refine wpAny_ite_split (fun _=>?_) fun hc=>absurd hb hc;refine wpAny_ite_split (fun hc=>absurd hc (by simp)) fun _=>?_;refine wpAny_bind ?_;refine wpAny_bind ?_;refine wpAny_setState_of q rfl rfl ?_;dsimp only;unfold setsByText;refine wpAny_bind (wpAny_bind (wpAny_askSetting (wpAny_pure ?_)));refine wpAny_ite_split (fun _=>?_) fun hc=>absurd hb hc;refine wpAny_bind (wpAny_askSetting (wpAny_pure ?_));rw [jt];exact wpAny_pure h
 |false=>
  refine wpAny_ite_split (fun hc=>absurd hc (by rw [show (model prog w).w.params.followText "set-order"=false from hb];simp)) fun _=>?_;refine wpAny_ite_split (fun hc=>absurd (show (!(u0 (gg w) (jB b)).plain&&decide ((#[(fE b,Value.bool b)]:Array (Int×Value)).size>1))=true from hc) (by simp)) fun _=>?_;refine wpAny_bind ?_;have hl:gg w=true:=by simp [gg,hb]
  show wpAny _ _ (if (!(gg w)&&!(#[(fE b,Value.bool b)]:Array (Int×Value)).isEmpty)=true then unsupported "set:maker-not-led" else pure ()) _ _ _;rw [hl];refine wpAny_pure ?_;refine wpAny_pure ?_;rw [hk hl,xF];exact h
end
end
section
section
variable {prog:Program} {w:World} {A:Around} {E:Value→Shared→Prop} {s:Shared}
theorem xG {I:Addr} {Q:Option Value→Shared→Prop} (hI:s.heap.get? I=some (vc 0 0 D ep)) (q:s.heap.get? D=some (fk w b ep)) (hne:D≠I)
  (h:∀h' k,(gg w=true→k=jB b+1)→h'.get? I=some (vc k 1 D ep)→Heap.SameBut I s.heap h'→Q (some (.bool b)) {s with heap:=h'}):
  wpAny (model prog w) A (pyNext (.ref I)) Q E s:=by
 have hTy:s.TypeIs (.ref I) "set_iterator":=⟨_,hI,rfl⟩;unfold pyNext
 refine wpAny_bind (wpAny_attempt (wpAny_callSpecial?_slot (name:=Str.ofString "__next__") hTy bU
  (wpAny_call_entry bU hTy gh ?_ (gP _))))
 show wpAny _ _ (fieldsOf (.ref I)>>=_) _ _ _;refine wpAny_bind (wpAny_fieldsOf hI rfl ?_);dsimp only;refine wpAny_bind (wpAny_setEntries_of q rfl rfl ?_);refine wpAny_ite_split (fun hc=>absurd hc (by simp)) fun _=>?_;refine wpAny_bind (pO q fun k _ hk=>?_);dsimp only;refine wpAny_bind (wpAny_setField_rec hI (by simp) fun h₁ U6 hs₁=>?_);refine wpAny_bind (wpAny_setField_rec U6 (by simp) fun h₂ hI₂ hs₂=>?_);exact wpAny_pure ⟨_,rfl,wpAny_pure (h h₂ k hk hI₂ (hs₁.trans hs₂))⟩
theorem Ax {I:Addr} {k:Nat} {Q:Option Value→Shared→Prop} (hh:A.handled=none) (hI:s.heap.get? I=some (vc k 1 D ep)) (q:s.heap.get? D=some (fk w b ep)) (hk:gg w=true→k=jB b+1)
  (h:∀h',Heap.ExtBut I s.heap h'→Q none {s with heap:=h'}):
  wpAny (model prog w) A (pyNext (.ref I)) Q E s:=by
 have hTy:s.TypeIs (.ref I) "set_iterator":=⟨_,hI,rfl⟩;unfold pyNext
 refine wpAny_bind (wpAny_attempt (wpAny_callSpecial?_slot (name:=Str.ofString "__next__") hTy bU
  (wpAny_call_entry bU hTy gh ?_ (gP _))))
 show wpAny _ _ (fieldsOf (.ref I)>>=_) _ _ _;refine wpAny_bind (wpAny_fieldsOf hI rfl ?_);dsimp only;refine wpAny_bind (wpAny_setEntries_of q rfl rfl ?_);refine wpAny_ite_split (fun hc=>absurd hc (by simp)) fun _=>?_;refine wpAny_bind (s9 (k:=k) q hk ?_);dsimp only;refine wpAny_bind (wpAny_setField_rec hI (by simp) fun h₁ U6 hs₁=>?_);show wpAny _ _ (newExc (.type "StopIteration") []>>=_) _ _ _;refine wpAny_bind ?_;simp only [newExc,newTuple];refine wpAny_bind (wpAny_newObj_type ?_ (by size_fits));refine wpAny_bind (m:=firstArgMember _ _) (wpAny_of_eq (a:=Value.none) (by first|rfl|(simp only [firstArgMember];rfl)) ?_);refine wpAny_newObj_type ?_ (by size_fits);simp only [raiseNew];refine wpAny_bind (wpAny_handled ?_)
 first|rw [show A.in1.handled=none from hh]|rw [hh]
 refine wpAny_bind (wpAny_pure (wpAny_throw ?_));refine wpAny_bind (wpAny_isInstance (T:="StopIteration") (b:=true) ⟨_,Heap.get?_push_size _ rfl,rfl⟩ isSubtype_stop ?_);exact wpAny_pure (h _ ((hs₁.extBut.push _).push _))
theorem xH {Q:List Value→Shared→Prop} (hh:A.handled=none) (hS:BS w s.heap D b i) (hi:i≠0)
  (h:∀h',Kp s.heap h'→Q [.bool b] {s with heap:=h'}):wpAny (model prog w) A (unpackItems (.ref D) 1 none) Q E s:=by
 rcases hS with ⟨e,_⟩|⟨_,ep,q⟩
 ·exact absurd e hi
 have hT:s.TypeIs (.ref D) "set":=⟨_,q,rfl⟩;unfold unpackItems;refine wpAny_bind ?_;unfold notIterableAtAll;refine wpAny_bind (wpAny_specialOf hT F.slot_set_iter.lookup ?_);refine wpAny_pure ?_;simp only [Bool.false_eq_true,if_false];refine wpAny_bind (wpAny_holding (Dn q ?_));have hlt:D≠s.heap.objs.size:=Nat.ne_of_lt (Heap.lt_size q);have q1:=Heap.get?_push_of_some (vc 0 0 D ep) q;refine wpAny_bind (wpAny_holding ?_);unfold draw;refine wpAny_bind (xG (Heap.get?_push_size _ rfl) q1 hlt fun h₁ k hk U6 hs₁=>?_);dsimp only;unfold draw;refine wpAny_bind (wpAny_holding (wpAny_pure (wpAny_pure ?_)));rw [if_neg (by simp)];have q2:=(hs₁.2 D hlt).trans q1;refine wpAny_bind (wpAny_holding (Ax hh U6 q2 hk fun h₂ hs₂=>?_));simp only [Option.isSome_none,Bool.false_eq_true,if_false];refine wpAny_pure (h h₂ fun c o e=>?_);have hc:c≠s.heap.objs.size:=Nat.ne_of_lt (Heap.lt_size e);exact hs₂ c o hc (hs₁.extBut c o hc (Heap.get?_push_of_some _ e))
end
end
section
section
variable {X:Cx} {C:Calls} {n:Nat} {A:Around} {E:Value→Shared→Prop}
theorem Dp {target:Expr} {sc:Scope} {pos':Pos} {vi:V}
  (hel:bL X C n kR) (hit:bL X C n zL) (ok:AB n A) (F:FM X env m ow Mu [] s.heap)
  (Xz:mE env.scope zL iter=true) (Kx:dD iter=false) (hsc:r9 env.scope sc tg=true) (mt:mw (dY sc env.scope) tg target=true) (me:mE (dY sc env.scope) kR elt=true)
  (ei:ev C m zL=some vi) (ex:cO vi=some xs) (hv:∀x∈xs,(bQ m tg x).bind (fun m'=>ev C m' kR)=some (.bool b))
  (hp:∀D h' tk,Kp s.heap h'→BS X.w h' D b xs.length→Q (.ref D) {s with heap:=h',toks:=tk}):
  wpAny (model X.prog X.w) A (comprehension (.SetComp elt [⟨target,iter,[],0⟩] sc pos') sc env pos (newSet (.type "set")) false (eval iter env)) Q E s:=by
 have SO:=sM.of hsc;have hclos:=yT (env:=env) (sc:=sc) fun cN k hm hk=>by subst hk;obtain ⟨c,w,h1,_,_⟩:=F.cell cN (SO.free cN hm);exact ⟨c,h1⟩
 refine wpAny_comprehension_free (cl:=cQ env sc.names []) (g:=⟨target,iter,[],0⟩) (gs:=[]) rfl (xd Kx) hclos SO.kind (fun p hp hl=>?_) ?_
 ·obtain ⟨a,k⟩:=p;have hl:k=.local:=hl;subst hl;exact mem_lookup SO.nd hp
 refine hit env m ow Mu s A E _ vi iter F ok Xz ei fun x h₁ tk₁ k₁ r₁=>?_;have F₁:=F.kp k₁;refine fO (s:={s with heap:=h₁,toks:=tk₁}) ok.1 F₁.ex ex r₁ fun h₂ k₂ ⟨T⟩=>?_;refine xD fun _=>?_;refine nU ?_;dsimp only;have hxs:=uq ex r₁;have sQ:h₁.objs.size<h₂.objs.size:=by obtain ⟨o,T,e,_⟩:=T.has 0 _ T.st;exact Heap.lt_size e
 have vN:(h₂.push (u5 X.w)).objs.size=h₂.objs.size+1:=Heap.size_push ..;have k₃:Kp h₂ (h₂.push (u5 X.w)):=aA;have D0:(h₂.push (u5 X.w)).get? h₂.objs.size=some (u5 X.w):=Heap.get?_push_size _ rfl;generalize hh3:h₂.push (u5 X.w)=h₃ at vN k₃ D0⊢;have F₃:FM X env m ow ([h₁.objs.size,h₂.objs.size]++Mu) [] h₃:=F₁.grow (k₂.trans k₃) [h₁.objs.size,h₂.objs.size]
  (fun a ha=>by
   rcases List.mem_cons.mp ha with rfl|ha
   ·exact aM (Nat.le_refl _)
   ·rw [List.mem_singleton.mp ha];exact aM (Nat.le_of_lt sQ))
  (fun a ha=>by
   rcases List.mem_cons.mp ha with rfl|ha
   ·obtain ⟨o,T,e,_⟩:=T.has 0 _ T.st;exact ⟨o,k₃ _ _ e⟩
   ·rw [List.mem_singleton.mp ha];exact ⟨_,D0⟩)
 have F₄:=nV F₃ SO;have k₄:=mJ h₃ sc;have C5:∀a∈dG sc h₃.objs.size,h₁.get? a=none:=fun a ha=>by
  have:=kj (h:=h₃) (sc:=sc) a ha;cases e:h₁.get? a with
  |none=>rfl
  |some o=>rw [k₃ _ _ (k₂ _ _ e)] at this;cases this
 have Ii:∀a∈dG sc h₃.objs.size++([h₁.objs.size,h₂.objs.size]++Mu),a∈Mu∨h₁.get? a=none:=fun a ha=>by
  rcases List.mem_append.mp ha with q|q
  ·exact .inr (C5 a q)
  ·rcases List.mem_append.mp q with q|q
   ·rcases List.mem_cons.mp q with rfl|q
    ·exact .inr (aM (Nat.le_refl _))
    ·rw [List.mem_singleton.mp q];exact .inr (aM (Nat.le_of_lt sQ))
   ·exact .inl q
 have AU:∀(b:Nat) o,h₁.get? b=some o→@LT.lt Nat _ b h₁.objs.size:=fun b o e=>Heap.lt_size e;have lt:∀(b:Nat),b∈T.fp→@LT.lt Nat _ b h₂.objs.size:=T.lt;have C6:∀b:Nat,b<h₃.objs.size→¬chg (bN sc env h₃.objs.size) (aT tg) b:=fun b hb q=>absurd (yV SO q) (Nat.not_le.mpr hb);have place:∀cN c,(bN sc env h₃.objs.size).cells.lookup cN=some c→c≠h₁.objs.size∧c≠h₂.objs.size:=fun cN c hc=>by have q:=nX (h:=h₃) F₁ (D7 sQ vN) SO hc;constructor <;>intro e <;>rw [e] at q <;>omega
 have loop:codeAny (model X.prog X.w) A (.compLoop (.SetComp elt [⟨target,iter,[],0⟩] sc pos') 0 (.ref h₁.objs.size) (.ref h₂.objs.size) (bN sc env h₃.objs.size))
   (compPost (model X.prog X.w) A E none Q (.ref h₂.objs.size) h₃.objs.size) {s with heap:=fC h₃ sc,toks:=tk₁}:=by
  refine Dm (kR:=kR) (tg:=tg) (xs:=xs) (b:=b) (hB:=h₁) (m:=m) (ow:=ow) (Mu:=dG sc h₃.objs.size++([h₁.objs.size,h₂.objs.size]++Mu)) (Ex:=uM sc) (fp:=T.fp) (P:=T.P) (St:=T.St)
   hel ok T.W (T.W.frame _ _ _ T.st fun b _ o e=>k₄ _ _ (k₃ _ _ e)) T.has (fun i x v hx hv=>RV.mu Ii _ _ (T.item i x v hx hv)) hxs F₄ ?_ ?_ mt me hv
   ?_ ?_ ?_ ?_ (Nat.ne_of_lt sQ) (fun cN c _ l=>place cN c l) (fun x a e=>?_) (fun b hb=>⟨C6 b ?_,?_⟩) ((k₂.trans k₃).trans k₄) (fun b o e=>⟨C6 b ?_,?_,?_⟩) ?_ ?_
  ·exact fun cN hn=>C3 SO hn
  ·exact fun x hx=>C4 SO hx
  ·exact mR (mL (List.mem_cons_self ..))
  ·exact mR (mL (List.mem_cons_of_mem _ (List.mem_cons_self ..)))
  ·show h₃.objs.size≠h₁.objs.size;exact ML sQ vN
  ·show h₃.objs.size≠h₂.objs.size;exact MM vN
  ·obtain ⟨o,e'⟩:=F₁.ex a (F₁.gU x a e);have:=AU a o e';constructor <;>intro q <;>rw [q] at this <;>omega
  ·have:=lt b hb;exact Nat.lt_of_lt_of_le this (MN vN)
  ·exact Nat.ne_of_lt (lt b hb)
  ·exact Nat.lt_of_lt_of_le (AU b o e) (D7 sQ vN)
  ·exact Nat.ne_of_lt (AU b o e)
  ·exact Nat.ne_of_lt (Nat.lt_trans (AU b o e) sQ)
  ·exact .inl ⟨rfl,k₄ _ _ D0⟩
  ·rintro h' tk kB ⟨mp,hns⟩ hD;have hn3:s.heap.get? h₃.objs.size=none:=by
    cases e:s.heap.get? h₃.objs.size with
    |none=>rfl
    |some o=>exact absurd (AU _ o (k₁ _ _ e)) (MO sQ vN)
   refine ⟨mp,hns,fun h'' Ao=>?_⟩;have hk2:∀b o,b≠h₃.objs.size→h'.get? b=some o→h''.get? b=some o:=fun b o hb e=>(Ao.2 b hb).trans e;exact hp h₂.objs.size h'' tk (fun b o e=>hk2 b o (fun q=>by rw [q,hn3] at e;cases e) (kB _ _ (k₁ b o e))) (hD.at fun o e=>hk2 _ o (VW vN) e)
 exact pN loop (T.W.self 0 _ _ _ (T.W.frame _ _ _ T.st fun b _ o e=>k₄ _ _ (k₃ _ _ e)) loop)
end
end
section
section
variable {X:Cx} {C:Calls} {n K:Nat}
theorem vd {α β:Type} {g:α→Option β} {p:β→Prop}:∀{xs:List α} {ys:List β},o7 g xs=some ys→(∀y∈ys,p y)→∀x∈xs,∃y,g x=some y∧p y
 |[],_,_,_,x,h=>nomatch h
 |a::xs,ys,e,k,x,h=>ob e fun y e1 e=>om (P:=fun ys:List β=>(∀y∈ys,p y)→∃y,g x=some y∧p y) e (fun ys e2 k=>(List.mem_cons.mp h).elim (fun q=>⟨y,q▸e1,k y (List.mem_cons_self ..)⟩) fun h=>vd e2 (fun z hz=>k z (List.mem_cons_of_mem _ hz)) x h) k
theorem FT (h:Bk b v=true):v=.bool b:=by
 unfold Bk at h;cases e:Uk v with
 |none=>rw [e] at h;exact nf h
 |some c=> rw [e] at h;exact Bl (P:=fun v=>v=.bool b) e (congrArg V.bool (eq_of_beq h))
theorem FU (EV:∀pe,bL X C n pe) {elt:PE}:mP X C n K (.qP x elt y it):=by
 intro cs env m ow Mu s A E Q fl m' st F ok hm he p;refine w6 (P:=fun st=>wpAny _ A (exec st env) Q E s) hm fun ts tj tp a tt i k vp pp mt m1 m2 m3 m4 m5=>ob he fun vi ei he=>ob he fun xs zK he=>ob he fun ys ey he=>ob he fun q hq he=>ob he fun b hb he=>oi he fun hall he=>?_;obtain ⟨Z6,hs,e2⟩:=Option.map_eq_some_iff.mp he;cases e2;have hys:ys=q.1::q.2:=jP (P:=fun ys=>ys=q.1::q.2) hq rfl;have hxs:xs.length≠0:=by rw [←(kq ey).1,hys];exact Nat.succ_ne_zero _
 have SY:∀z∈xs,(bQ m (.one y) z).bind (fun m'=>ev C m' elt)=some (.bool b):=fun z hz=>by
  obtain ⟨w,e1,e⟩:=vd (p:=fun w=>w=V.bool b) ey (fun w hw=>by
   rw [hys] at hw
   exact (List.mem_cons.mp hw).elim (fun e=>e▸Bl (P:=fun v=>v=.bool b) hb rfl) fun hw=>FT (List.all_eq_true.mp hall w hw)) z hz
  exact e▸e1
 refine i8 (P:=fun t=>t=.Tuple ts tj tp→_) mt (fun es tk tpos mts e=>?_) rfl;cases e;obtain ⟨h1,h2,h3⟩:=CX [x] ts mts;refine wpAny_Assign_stores ?_ rfl (by rfl);show wpAny _ _ (comprehension _ _ _ _ _ false (eval i env)) _ _ _;refine Dp (tg:=.one y) (EV elt) (EV it) ok F.toFM m1 m2 m3 m4 m5 ei zK SY fun D h' tk' hk hD=>?_;show wpAny _ _ (assign (.Tuple ts tj tp) env (.ref D)) _ _ _;rw [arm_assign_Tuple];refine wpAny_bind (wpAny_standAt ?_);unfold unpack;rw [h1,h3,h2];refine wpAny_bind (wpAny_holding (xH ok.1 hD hxs fun h'' hk2=>?_));have F2:=F.kp (hk.trans hk2);refine sJ (m':=m') [x] ts [.bool b] [.bool b] m [] _ _ F2.toFM mts (show ((jN m x (.bool b)).bind fun m=>fq m [] [])=_ by rw [hs];rfl) (aE.one rfl) fun h3 gO CD F3=>?_;exact p .next ow Mu h3 gO (F2.chg (xs:=[x]) (F3.less fun k hk=>absurd (ff hk).1 List.not_mem_nil) CD) (Ext.jN hs) rfl
end
end
noncomputable abbrev Sm (h:Int):Prop:=0≤h∧h<7
theorem xJ {h:Int} (s:Sm h):SetTable.bits h=h.toNat:=by unfold SetTable.bits;rw [Int.emod_eq_of_lt s.1 (by have:=s.2;omega)]
theorem xK (hm:7≤mask) {h:Int} (s:Sm h) (ho:owner[h.toNat]?=some none):
  SetTable.layClean.free mask owner (SetTable.turns mask) (SetTable.bits h%(mask+1)) (SetTable.bits h)=some h.toNat:=by
 have hb:h.toNat<mask+1:=by have:=s.2;exact Bj hm this
 rw [xJ s,Nat.mod_eq_of_lt hb];unfold SetTable.turns;rw [show mask+15=(mask+14)+1 from rfl,SetTable.layClean.free];have hr:∃r,SetTable.runEnd mask h.toNat+1-h.toNat=r+1:=by
  unfold SetTable.runEnd;split
  ·exact ⟨9,by exact Qs⟩
  ·exact ⟨0,by exact Qt⟩
 obtain ⟨r,hr⟩:=hr;rw [hr,List.range_succ_eq_map];have h0:(owner.getD (h.toNat+0) (some 0)).isNone=true:=by simp [Array.getD_eq_getD_getElem?,ho]
 rw [List.find?_cons_of_pos (p:=fun k=>(owner.getD (h.toNat+k) (some 0)).isNone) h0];rfl
noncomputable def own (l:List Int) (j:Nat):Option Nat:=l.findIdx? fun h=>h.toNat==j
theorem lV {mask:Nat} (hm:7≤mask):∀(l p:List Int) (owner:Array (Option Nat)),(∀h∈l,Sm h)→(p++l).Nodup→(∀h∈p,Sm h)→owner.size=mask+1→(∀j,j<mask+1→owner[j]?=some (own p j))→
  ∃o,List.foldlM (fun (acc:Array (Option Nat)×Nat) h=>do
   let j←SetTable.layClean.free mask acc.1 (SetTable.turns mask) (SetTable.bits h%(mask+1)) (SetTable.bits h)
   pure (acc.1.setIfInBounds j (some acc.2),acc.2+1)) (owner,p.length) l=some (o,(p++l).length)∧o.size=mask+1∧∀j,j<mask+1→o[j]?=some (own (p++l) j)
 |[],p,owner,_,_,_,hs,ho=>⟨owner,by simp,hs,by simpa using ho⟩
 |h::l,p,owner,hl,hn,hp,hs,ho=>by
  have sh:=hl h (by simp);have hlt:h.toNat<mask+1:=by have:=sh.2;exact Bj hm this
  have hnp:h∉p:=fun q=>by have:=(List.nodup_append.mp hn).2.2;exact this h q h (by simp) rfl
  have hnone:own p h.toNat=none:=by unfold own;rw [List.findIdx?_eq_none_iff];intro x hx;have sx:=hp x hx;simp only [beq_eq_false_iff_ne,ne_eq];intro q;have:x=h:=Y7 q sx.1 sh.1;exact hnp (this▸hx)
  rw [List.foldlM_cons,xK hm sh (by rw [ho _ hlt,hnone])]
  have:=lV hm l (p++[h]) (owner.setIfInBounds h.toNat (some p.length)) (fun x hx=>hl x (by simp [hx])) (by simpa using hn) (fun x hx=>by
   rcases List.mem_append.mp hx with q|q
   ·exact hp x q
   ·rw [List.mem_singleton.mp q];exact sh) (by simp [hs]) (fun j hj=>by
   rw [Array.getElem?_setIfInBounds];split
   ·rename_i e;subst e;rw [if_pos (by exact Qu hs hj)];unfold own at hnone⊢;rw [List.findIdx?_append,hnone];simp
   ·rename_i e;rw [ho j hj];unfold own;rw [List.findIdx?_append]
    simp [e])
  simpa using this
theorem ja {α β:Type} (g:β→α→Option α):∀(l:List β) (a:Option α),l.foldl (fun acc h=>acc.bind (g h)) a=a.bind fun a=>l.foldlM (fun a h=>g h a) a
 |[],a=>by cases a <;>rfl
 |h::l,none=>by rw [List.foldl_cons,ja g l];rfl
 |h::l,some a=>by rw [List.foldl_cons,ja g l,Option.bind_some,Option.bind_some,List.foldlM_cons];rfl
theorem jH {α β:Type} {f g:α→Option β}:∀{l:List α},(∀x∈l,f x=g x)→l.filterMap f=l.filterMap g
 |[],_=>rfl
 |a::l,h=>by rw [List.filterMap_cons,List.filterMap_cons,h a (by simp),jH (l:=l) fun x hx=>h x (by simp [hx])]
theorem oE (hm:7≤mask) {l:List Int} (hl:∀h∈l,Sm h) (hn:l.Nodup):
  ∃o,SetTable.layClean mask l.toArray=some o∧o.size=mask+1∧∀j,j<mask+1→o[j]?=some (own l j):=by
 obtain ⟨o,h1,h2,h3⟩:=lV hm l [] (Array.replicate (mask+1) none) hl (by simpa using hn) (by simp) (by simp) (fun j hj=>by simp [hj,own]);refine ⟨o,?_,h2,by simpa using h3⟩;unfold SetTable.layClean;rw [List.foldl_toArray]
 have:=ja (fun (h:Int) (acc:Array (Option Nat)×Nat)=>(do
   let j←SetTable.layClean.free mask acc.1 (SetTable.turns mask) (SetTable.bits h%(mask+1)) (SetTable.bits h)
   pure (acc.1.setIfInBounds j (some acc.2),acc.2+1))) l (some (Array.replicate (mask+1) none,0))
 rw [Option.bind_some] at this;simp only [List.length_nil] at h1;rw [h1] at this;refine Eq.trans (congrArg (Option.map (·.1)) this) rfl
theorem xM {l:List Int} {j k:Nat} (h:own l j=some k):∃hk:k<l.length,l[k].toNat=j:=by obtain ⟨h1,h2,_⟩:=List.findIdx?_eq_some_iff_getElem.mp h;exact ⟨h1,by simpa using h2⟩
theorem KW {l:List Int} (hl:∀h∈l,Sm h) (hn:l.Nodup) {k:Nat} (hk:k<l.length):own l (l[k].toNat)=some k:=by unfold own;rw [List.findIdx?_eq_some_iff_getElem];refine ⟨hk,by simp,fun j hj=>?_⟩;simp only [beq_iff_eq];intro q;have s1:=hl l[k] (List.getElem_mem _);have s2:=hl l[j] (List.getElem_mem _);have e:l[j]=l[k]:=Y7 q s2.1 s1.1;exact List.pairwise_iff_getElem.mp hn j k (Nat.lt_trans hj hk) hk hj e
theorem xN {finger moves:Nat} {led plain:Bool} (hm:7≤mask) {l:List Int} (hl:∀h∈l,Sm h) (hn:l.Nodup):
  ∃t order,SetTable.laid mask finger moves led plain l.toArray=some (t,order)∧t.place.size=l.length∧t.dummies=#[]∧t.mask=mask∧t.led=led∧t.plain=plain∧order.toList.Perm (List.range l.length):=by
 obtain ⟨o,h1,h2,h3⟩:=oE hm hl hn;have hlive:((List.range (mask+1)).filterMap fun j=>(o.getD j none).map (j,·))=(List.range (mask+1)).filterMap fun j=>(own l j).map (j,·):=by refine jH fun j hj=>?_;have:=h3 j (List.mem_range.mp hj);simp [Array.getD_eq_getD_getElem?,this]
 have lW:(((List.range (mask+1)).filterMap fun j=>(own l j).map (j,·)).map (·.2)).Perm (List.range l.length):=by
  rw [List.perm_ext_iff_of_nodup ?_ List.nodup_range]
  ·intro k;simp only [List.mem_map,List.mem_filterMap,List.mem_range,Option.map_eq_some_iff];constructor
   ·rintro ⟨⟨j,k'⟩,⟨j',hj',k'',e1,e2⟩,rfl⟩;cases e2;exact (xM e1).1
   ·intro hk;have s:=hl l[k] (List.getElem_mem _);exact ⟨(l[k].toNat,k),⟨l[k].toNat,by have:=s.2;exact Bj hm this,k,KW hl hn hk,rfl⟩,rfl⟩
  ·rw [List.map_filterMap];unfold List.Nodup;rw [List.pairwise_filterMap];refine List.Pairwise.imp ?_ (List.nodup_range (n:=mask+1));intro a b hab x hx y hy e;subst e;simp only [Option.map_map,Option.map_eq_some_iff] at hx hy;obtain ⟨k1,e1,rfl⟩:=hx;obtain ⟨k2,e2,e3⟩:=hy;simp at e3;subst e3;obtain ⟨_,q1⟩:=xM e1;obtain ⟨_,q2⟩:=xM e2;exact hab (q1.symm.trans q2)
 refine ⟨_,_,by unfold SetTable.laid;rw [h1];rfl,?_,rfl,rfl,rfl,rfl,?_⟩
 ·rw [hlive];have:=lW.length_eq;simpa using this
 ·rw [hlive];simpa using lW
section
theorem dK {k:Int} (s:Sm k):hashInt k=k:=by have:k=0∨k=1∨k=2∨k=3∨k=4∨k=5∨k=6:=GZ s.1 s.2;rcases this with rfl|rfl|rfl|rfl|rfl|rfl|rfl <;>rfl
noncomputable def EI (l:List (Int×Value)):Prop:=∀e∈l,Sm e.1∧∃t,e.2=.int e.1 t
noncomputable def fJ (h:Heap) (a:Addr) (xs:List Int) (es:Array (Int×Value)) (ep:Nat) (t:SetTable):Prop:= ∃o,h.get? a=some o∧o.ExactSet∧o.data=.set es ep t∧EI es.toList∧(es.toList.map (·.1)).Perm xs∧t.fits es.size=true
noncomputable def bV (h:Heap) (a:Addr) (xs:List Int):Prop:=∃es ep t,fJ h a xs es ep t
theorem ve:∀{xs ks:List Int},xs.Nodup→ks.length=xs.length→(∀x∈xs,x∈ks)→ks.Perm xs
 |[],ks,_,hl,_=>by rw [List.length_eq_zero_iff.mp hl]
 |x::xs,ks,hn,hl,hs=>by
  have hx:x∈ks:=hs x (by simp);have p:=List.perm_cons_erase hx;have hn':=List.nodup_cons.mp hn;refine p.trans (.cons x (ve hn'.2 ?_ fun y hy=>?_))
  ·rw [List.length_erase_of_mem hx,hl];rfl
  ·have:y≠x:=fun e=>hn'.1 (e▸hy);exact (List.mem_erase_of_ne this).mpr (hs y (by simp [hy]))
theorem bV.of {p:Program} {xs:List Int} (S:h.SetOf (intKind p w) a (fun k=>decide (k∈xs)) xs.length) (hn:xs.Nodup) (hs:∀x∈xs,Sm x):bV h a xs:=by
 obtain ⟨o,es,ep,t,ho,hex,hd,hel,hmem,hb,hf,hsz⟩:=S;have key:∀e∈es.toList,Sm e.1∧∃t,e.2=.int e.1 t:=fun e he=>by obtain ⟨⟨k,hk,eh⟩,_⟩:=hel e he;obtain ⟨t,q⟩:=Value.isInt_shape hk;have hx:k∈xs:=of_decide_eq_true ((hmem k).mpr ⟨e,he,hk⟩);have e1:e.1=k:=eh.trans (dK (hs k hx));rw [e1];exact ⟨hs k hx,t,q⟩
 refine ⟨es,ep,t,o,ho,hex,hd,key,ve hn (by simpa using hsz) fun x hx=>?_,hf⟩;obtain ⟨e,he,q⟩:=(hmem x).mp (decide_eq_true hx);obtain ⟨t',q'⟩:=(key e he).2;refine List.mem_map.mpr ⟨e,he,?_⟩;obtain ⟨t2,q2⟩:=Value.isInt_shape q;rw [q2] at q';injection q' with q' _;exact q'.symm
theorem fJ.elems {p:Program} {l:List (Int×Value)} (h:EI l):ElemsOf (intKind p w) l:=fun e he=>by obtain ⟨s,t,q⟩:=h e he;refine ⟨⟨e.1,?_,(dK s).symm⟩,by rw [q];rfl⟩;rw [q];simp [intKind,Value.isInt]
theorem EI.mem {p:Program} {l:List (Int×Value)} (h:EI l) (k:Int):k∈l.map (·.1)↔∃e∈l,(intKind p w).is k e.2=true:=by
 constructor
 ·intro q;obtain ⟨e,he,rfl⟩:=List.mem_map.mp q;obtain ⟨s,t,q⟩:=h e he;exact ⟨e,he,by rw [q];simp [intKind,Value.isInt]⟩
 ·rintro ⟨e,he,q⟩;obtain ⟨t2,q2⟩:=Value.isInt_shape q;obtain ⟨s,t,q'⟩:=h e he;rw [q2] at q';injection q' with q' _;exact List.mem_map.mpr ⟨e,he,q'.symm⟩
theorem bV.to {p:Program} {xs:List Int} (q:bV h a xs) (hl:xs.length<100):h.SetOf (intKind p w) a (fun k=>decide (k∈xs)) xs.length:=by
 obtain ⟨es,ep,t,o,ho,hex,hd,hel,hp,hf⟩:=q;have hsz:es.size=xs.length:=by rw [←hp.length_eq];simp
 refine ⟨o,es,ep,t,ho,hex,hd,fJ.elems hel,fun k=>?_,?_,hf,hsz⟩
 ·rw [decide_eq_true_eq,←hp.mem_iff];exact hel.mem k
 ·rw [hsz];exact Nat.lt_trans hl (by decide)
theorem zc (ho:h.get? a=some o) (hex:o.ExactSet) (hd:o.data=.set es ep t) {xs':List Int} (hel:EI es'.toList) (hp:(es'.toList.map (·.1)).Perm xs') (hf:t'.fits es'.size=true):
  fJ (h.update a (Obj.putSet es' t')) a xs' es' (ep+1) t':=by
 have hg:(h.update a (Obj.putSet es' t')).get? a=some {o with data:=.set es' (ep+1) t'}:=by have:=Heap.get?_update_self (Obj.putSet es' t') ho (by rw [putSet_of es' t' hd];rfl);rw [putSet_of es' t' hd] at this;exact this
 exact ⟨_,hg,hex,rfl,hel,hp,hf⟩
theorem Dq:∀w,w<33→SetTable.sizeAbove w≤64∧8≤SetTable.sizeAbove w:=by decide+kernel
theorem fJ.hashes {xs:List Int} (q:fJ h a xs es ep t) (hn:xs.Nodup):
  (∀x∈es.toList.map (·.1),Sm x)∧(es.toList.map (·.1)).Nodup:=by
 obtain ⟨o,ho,hex,hd,hel,hp,hf⟩:=q;refine ⟨fun x hx=>?_,hp.nodup_iff.mpr hn⟩;obtain ⟨e,he,rfl⟩:=List.mem_map.mp hx;exact (hel e he).1
theorem oF {order:Array Nat} (hp:order.toList.Perm (List.range es.size)):(order.filterMap (es[·]?)).toList.Perm es.toList:=by rw [Array.toList_filterMap];exact (hp.filterMap _).trans (by rw [filterMap_getElem?_range])
theorem Dr {xs:List Int} (q:fJ h a xs es ep t) (hn:xs.Nodup) (hl:xs.length≤7) (hm:7≤mask) (finger moves:Nat) (led plain:Bool):
  ∃t' order,SetTable.laid mask finger moves led plain (es.map (·.1))=some (t',order)∧t'.dummies=#[]∧t'.mask=mask∧(order.filterMap (es[·]?)).size=es.size∧
   (order.filterMap (es[·]?)).toList.Perm es.toList∧t'.fits (order.filterMap (es[·]?)).size=true:=by
 obtain ⟨h1,h2⟩:=q.hashes hn;obtain ⟨t',order,e1,e2,e3,e4,_,_,e5⟩:=xN (finger:=finger) (moves:=moves) (led:=led) (plain:=plain) hm h1 h2;have e0:(es.toList.map (·.1)).toArray=es.map (·.1):=by cases es;simp
 rw [e0] at e1;simp only [List.length_map,Array.length_toList] at e5 e2;have hp:=oF e5;have hsz:(order.filterMap (es[·]?)).size=es.size:=by have:=hp.length_eq;rwa [Array.length_toList,Array.length_toList] at this
 obtain ⟨o,ho,hex,hd,hel,hq,hf⟩:=q;have hs:es.size=xs.length:=by rw [←hq.length_eq];simp
 refine ⟨t',order,e1,e3,e4,hsz,hp,?_⟩;simp only [SetTable.fits,SetTable.fill,e2,e3,hsz,e4];simp;exact Nq hl hm hs
section
variable {prog:Program} {w:World} {A:Around} {E:Value→Shared→Prop} {s:Shared}
theorem EI.perm {l l':List (Int×Value)} (h:EI l) (p:l'.Perm l):EI l':=fun e he=>h e (p.mem_iff.mp he)
theorem Ds {xs:List Int} {wanted:Nat} {Q:Unit→Shared→Prop} (q:fJ s.heap a xs es ep t) (hn:xs.Nodup) (hl:xs.length≤7) (hw:wanted<33)
  (h:∀h' es' t',Heap.SameBut a s.heap h'→fJ h' a xs es' (ep+1) t'→t'.dummies=#[]→7≤t'.mask→Q () {s with heap:=h'}):wpAny (model prog w) A (setRelay a wanted) Q E s:=by
 obtain ⟨m1,m2⟩:=Dq wanted hw;obtain ⟨t',order,e1,e2,e3,e4,e5,e6⟩:=Dr q hn hl (mask:=SetTable.sizeAbove wanted-1) (G7 m2) t.finger (t.movedTo (SetTable.sizeAbove wanted-1)) t.led t.plain;have hr:t.relaid (es.map (·.1)) wanted=some (t',order):=e1;obtain ⟨o,ho,hex,hd,hel,hp,hf⟩:=q;unfold setRelay;refine wpAny_bind (wpAny_setState_of ho hd hf ?_);dsimp only;refine wpAny_ite_split (fun hc=>absurd hc (by simp [av];exact Nr m1)) fun _=>?_;rw [hr];have hs:es.size=xs.length:=by rw [←hp.length_eq];simp
 show wpAny _ _ ((if ((order.filterMap (es[·]?)).size !=es.size)=true then unsupported "internal:set-table-lost-an-element">>=(fun _=>pure (order.filterMap (es[·]?),t')) else pure (order.filterMap (es[·]?),t'))>>=fun x=>storeSet a x.1 x.2) _ _ _;rw [e4];simp only [bne_self_eq_false,Bool.false_eq_true,↓reduceIte];refine wpAny_bind (wpAny_pure ?_);refine wpAny_storeSet_of ho hd ?_ (by rw [e4,hs,av];exact Nt hl);refine h _ _ _ (Heap.SameBut.update ..) (zc ho hex hd (hel.perm e5) ((e5.map _).trans hp) e6) e2 (by rw [e3];exact G7 m2)
theorem zd {xs:List Int} {more:Nat} {Q:Unit→Shared→Prop} (q:fJ s.heap a xs es ep t) (hn:xs.Nodup) (hl:xs.length≤7) (hm:more≤7)
  (h:∀h' es' fj t',Heap.SameBut a s.heap h'→fJ h' a xs es' fj t'→(t'=t∨(t'.dummies=#[]∧7≤t'.mask))→Q () {s with heap:=h'}):wpAny (model prog w) A (setRoomFor a more) Q E s:=by
 have q':=q;obtain ⟨o,ho,hex,hd,hel,hp,hf⟩:=q';have hs:es.size=xs.length:=by rw [←hp.length_eq];simp
 have hpl:t.place.size=es.size:=by simp only [SetTable.fits,Bool.and_eq_true,beq_iff_eq] at hf;exact hf.1
 unfold setRoomFor;refine wpAny_bind (wpAny_setState_of ho hd hf ?_);dsimp only;unfold SetTable.roomFor
 by_cases hc:(t.fill+more)*5≥t.mask*3
 ·rw [if_pos hc];exact Ds q hn hl (Np hl hm hs hpl) fun h' es' t' k1 k2 k3 k4=>h h' es' _ t' k1 k2 (.inr ⟨k3,k4⟩)
 ·rw [if_neg hc];refine wpAny_pure ?_;have e:s={s with heap:=s.heap}:=by cases s;rfl
  rw [e];exact h _ es ep t (Heap.SameBut.refl ..) q (.inl rfl)
end
end
section
theorem fJ.size {xs:List Int} (q:fJ h a xs es ep t):es.size=xs.length:=by obtain ⟨o,ho,hex,hd,hel,hp,hf⟩:=q;rw [←hp.length_eq];simp
theorem fJ.same {r:Addr} {xs:List Int} (q:fJ h a xs es ep t) (hs:Heap.SameBut r h h') (hn:a≠r):fJ h' a xs es ep t:=by obtain ⟨o,ho,q⟩:=q;exact ⟨o,(hs.2 a hn).trans ho,q⟩
theorem fJ.perm {xs:List Int} (q:fJ h a xs es ep t) (hp:xs.Perm ys):fJ h a ys es ep t:=by obtain ⟨o,ho,hex,hd,hel,hq,hf⟩:=q;exact ⟨o,ho,hex,hd,hel,hq.trans hp,hf⟩
section
variable {prog:Program} {w:World} {A:Around} {E:Value→Shared→Prop} {s:Shared}
theorem bY {xs:List Int} {Q:(Array (Int×Value)×Nat×SetTable)→Shared→Prop} (q:fJ s.heap a xs es ep t) (h:Q (es,ep,t) s):
  wpAny (model prog w) A (setState a) Q E s:=by
 obtain ⟨o,ho,hex,hd,hel,hq,hf⟩:=q;exact wpAny_setState_of ho hd hf h
theorem jb {xs:List Int} {Q:Nat→Shared→Prop} (q:fJ s.heap a xs es ep t) (h:Q ep s):
  wpAny (model prog w) A (setEpoch a) Q E s:=by
 obtain ⟨o,ho,hex,hd,hel,hq,hf⟩:=q;exact wpAny_setEpoch_of ho hd hf h
theorem jc {xs xs':List Int} {Q:Unit→Shared→Prop} (q:fJ s.heap a xs es ep t) (hel:EI es'.toList) (hp:(es'.toList.map (·.1)).Perm xs') (hf:t'.fits es'.size=true) (hl:xs'.length<1000)
  (h:∀h',Heap.SameBut a s.heap h'→fJ h' a xs' es' (ep+1) t'→Q () {s with heap:=h'}):wpAny (model prog w) A (storeSet a es' t') Q E s:=by
 obtain ⟨o,ho,hex,hd,_,_,_⟩:=q;have hs:es'.size=xs'.length:=by rw [←hp.length_eq];simp
 exact wpAny_storeSet_of ho hd (h _ (Heap.SameBut.update ..) (zc ho hex hd hel hp hf)) (by rw [hs,av];exact G3 hl)
theorem lX {r:Addr} {xs:List Int} {er':Nat} {tr:SetTable} {each:Sem Unit} {Q:Unit→Shared→Prop} (hne:r≠a) (hr:fJ s.heap r [] er er' tr) (hd:tr.dummies=#[]) (hm:7≤tr.mask)
  (ho:fJ s.heap a xs es ep t) (hn:xs.Nodup) (hl:xs.length≤7) (hx:xs≠[])
  (h:∀h',Heap.SameBut r s.heap h'→bV h' r xs→Q () {s with heap:=h'}):wpAny (model prog w) A (setMerge r a each) Q E s:=by
 unfold setMerge;refine wpAny_ite_split (fun hc=>absurd (by simpa using hc) hne) fun _=>?_;refine wpAny_bind (bY ho ?_);dsimp only;have hs:=ho.size
 refine wpAny_ite_split (fun hc=>absurd (by
  have:es.size=0:=by simpa using hc
  exact List.length_eq_zero_iff.mp (hs.symm.trans this)) hx) fun _=>?_
 refine wpAny_bind (zd hr (by simp) (by simp) (G9 hl hs) fun h' es' fj t' k1 k2 k3=>?_);have k3':t'.dummies=#[]∧7≤t'.mask:=by
  rcases k3 with rfl|k3
  ·exact ⟨hd,hm⟩
  ·exact k3
 refine wpAny_bind (bY (s:={s with heap:=h'}) k2 ?_);dsimp only;have ho':=ho.same k1 (Ne.symm hne);have hfit:t'.place.size=0:=by have:=fJ.size k2;obtain ⟨o,_,_,_,_,_,hf⟩:=k2;simp only [SetTable.fits,Bool.and_eq_true,beq_iff_eq] at hf;rw [hf.1,this];rfl
 have hfill:t'.fill=0:=by simp [SetTable.fill,hfit,k3'.1]
 obtain ⟨o,hoo,hex,Z0,hel,hp,hf⟩:=ho;unfold SetTable.road;rw [hfill]
 by_cases hc:(t'.mask==t.mask&&t.dummies.isEmpty)=true
 ·rw [hc];simp only [bne_self_eq_false,Bool.false_eq_true,↓reduceIte];exact jc (s:={s with heap:=h'}) k2 hel hp hf (A8 hl) fun h2 k4 k5=>h h2 (k1.trans k4) ⟨_,_,_,k5⟩
 ·rw [Bool.not_eq_true] at hc;rw [hc];simp only [bne_self_eq_false,Bool.false_eq_true,↓reduceIte];obtain ⟨t2,order,e1,e2,e3,e4,e5,e6⟩:=Dr (ho':fJ h' a xs es ep t) hn hl (mask:=t'.mask) k3'.2 t'.finger t'.moves (t'.led&&t.led) (t'.plain&&t.plain);rw [e1];show wpAny _ _ ((if ((order.filterMap (es[·]?)).size !=es.size)=true then unsupported "internal:set-table-lost-an-element">>=(fun _=>pure (order.filterMap (es[·]?),t2)) else pure (order.filterMap (es[·]?),t2))>>=fun x=>storeSet r x.1 x.2) _ _ _;rw [e4];simp only [bne_self_eq_false,Bool.false_eq_true,↓reduceIte];refine wpAny_bind (wpAny_pure ?_);exact jc (s:={s with heap:=h'}) k2 (hel.perm e5) ((e5.map _).trans hp) e6 (A8 hl) fun h2 k4 k5=>h h2 (k1.trans k4) ⟨_,_,_,k5⟩
theorem gH {α:Type}:∀(l:List α) (i:Nat) (h:i<l.length),(l[i]::l.eraseIdx i).Perm l
 |[],i,h=>by simp at h
 |a::l,0,_=>by simp
 |a::l,i+1,h=>by simp only [List.getElem_cons_succ,List.eraseIdx_cons_succ];exact (List.Perm.swap _ _ _).trans (.cons a (gH l i (by simpa using h)))
theorem ze {α:Type} (f:Nat→Nat):∀(n k:Nat) (l:List α) (out:Array α),l.length≤n→(pickOrder.go f n k l out).toList.Perm (out.toList++l)
 |0,k,l,out,h=>by have:l=[]:=List.length_eq_zero_iff.mp (A7 h);subst this;simp [pickOrder.go]
 |n+1,k,l,out,h=>by
  unfold pickOrder.go;split
  ·rename_i x hx;obtain ⟨hlt,rfl⟩:=List.getElem?_eq_some_iff.mp hx;refine (ze f n (k+1) _ _ (by rw [List.length_eraseIdx_of_lt hlt];exact ND h)).trans ?_;rw [Array.toList_push,List.append_assoc];exact List.Perm.append_left _ (gH _ _ hlt)
  ·rename_i hx;have:l=[]:=by
    rcases l with _|⟨y,l⟩
    ·rfl
    ·have:=List.getElem?_eq_none_iff.mp hx;have:=Nat.mod_lt (f k) (show 0<(y::l).length by simp);omega
   subst this;simp
theorem qE (f:Nat→Nat) (es:Array α):(pickOrder f es).toList.Perm es.toList:=by unfold pickOrder;simpa using ze f es.size 0 es.toList #[] (by simp)
theorem Dt {xs:List Int} {Q:Array (Int×Value)→Shared→Prop} (q:fJ s.heap a xs es ep t) (hc:w.params.followText "set-order"=true∨(t.led&&t.plain)=true∨es.size≤1)
  (h:∀es':Array (Int×Value),es'.toList.Perm es.toList→Q es' s):wpAny (model prog w) A (setWalk a) Q E s:=by
 unfold setWalk;refine wpAny_bind (bY q ?_);dsimp only;unfold setsByText;refine wpAny_bind (wpAny_bind (wpAny_askSetting (wpAny_pure ?_)));refine wpAny_ite_split (fun _=>?_) fun hb=>?_
 ·exact wpAny_bind (wpAny_askSetting (wpAny_pure (h _ (qE ..))))
 ·have hc':(t.led&&t.plain)=true∨es.size≤1:=hc.resolve_left hb;refine wpAny_ite_split (fun hd=>?_) fun _=>?_
  ·have hd:(!t.plain&&decide (es.size>1))=true:=hd;simp only [Bool.and_eq_true,Bool.not_eq_true',decide_eq_true_eq] at hd hc';rcases hc' with ⟨_,q⟩|q
   ·rw [q] at hd;simp at hd
   ·omega
  ·refine wpAny_bind ?_;have hm:(!t.led&&decide (es.size>1))=false:=by
    simp only [Bool.and_eq_true] at hc';rcases hc' with ⟨q,_⟩|q
    ·simp [q]
    ·simp;omega
   show wpAny _ _ (if (!t.led&&decide (es.size>1))=true then unsupported "set:maker-not-led" else pure ()) _ _ _;rw [hm];exact wpAny_pure (wpAny_pure (h _ .rfl))
theorem Du {l:List Addr} {Q:Bool→Shared→Prop} (hl:∀a∈l,∃xs,bV s.heap a xs) (h:Q true s):wpAny (model prog w) A (setsQuiet l) Q E s:=by
 unfold setsQuiet;refine wpAny_bind (wpAny_forIn_list _ (fun rest b s'=>s'=s∧b.1=none∧∀a∈rest,∃xs,bV s.heap a xs) _ ?_ ?_ l _ ⟨rfl,rfl,hl⟩)
 ·rintro a rest ⟨b,u⟩ s' ⟨rfl,hb,hr⟩;obtain ⟨xs,es,ep,t,q⟩:=hr a (by simp);obtain ⟨o,ho,hex,hd,hel,hp,hf⟩:=q;simp only at hb;subst hb;refine wpAny_bind (wpAny_setEntries_of ho hd hf ?_);rw [←Array.forIn_toList];refine wpAny_bind (wpAny_forIn_list _ (fun rest b s''=>s''=s'∧b.1=none∧∀e∈rest,∃k t,e.2=Value.int k t) _ ?_ ?_ _ _ ⟨rfl,rfl,fun e he=>⟨_,(hel e he).2⟩⟩)
  ·rintro ⟨k,v⟩ rest ⟨b,u⟩ s' ⟨rfl,hb,hr⟩;obtain ⟨k',t',e⟩:=hr (k,v) (by simp);simp only at e hb;subst e hb;dsimp only;exact wpAny_pure ⟨rfl,rfl,fun e he=>hr e (by simp [he])⟩
  ·rintro ⟨b,u⟩ s' ⟨rfl,hb,_⟩;simp only at hb;subst hb;dsimp only;exact wpAny_pure ⟨rfl,rfl,fun e he=>hr e (by simp [he])⟩
 ·rintro ⟨b,u⟩ s' ⟨rfl,hb,_⟩;simp only at hb;subst hb;dsimp only;exact wpAny_pure h
theorem qF {r:Addr} {xs:List Int} {Q:Array (Int×Value)→Shared→Prop} (hne:r≠a) (q:fJ s.heap a xs es ep t) (hr:bV s.heap r ys) (hl:ys.length≤7)
  (h:∀(es':Array (Int×Value)) h',es'.toList.Perm es.toList→Heap.SameBut r s.heap h'→bV h' r ys→Q es' {s with heap:=h'}):wpAny (model prog w) A (setWalkUnseen a [r] (some r)) Q E s:=by
 have e:s={s with heap:=s.heap}:=by cases s;rfl
 have h0:∀es':Array (Int×Value),es'.toList.Perm es.toList→Q es' s:=fun es' p=>by rw [e];exact h es' _ p (Heap.SameBut.refl ..) hr
 unfold setWalkUnseen;refine wpAny_bind (bY q ?_);dsimp only;unfold setsByText;refine wpAny_bind (wpAny_bind (wpAny_askSetting (wpAny_pure ?_)));refine wpAny_ite_split (fun hc=>?_) fun _=>?_
 ·refine Dt q ?_ h0;have hc:(w.params.followText "set-order"||(t.led&&t.plain)||decide (es.size≤1))=true:=hc;simp only [Bool.or_eq_true,decide_eq_true_eq] at hc;rcases hc with (x|x)|x
  ·exact .inl x
  ·exact .inr (.inl x)
  ·exact .inr (.inr x)
 ·refine wpAny_bind (Du (by
   intro b hb;rcases List.mem_cons.mp hb with rfl|hb
   ·exact ⟨xs,_,_,_,q⟩
   ·rw [List.mem_singleton.mp hb];exact ⟨ys,hr⟩) ?_)
  refine wpAny_ite_split (fun hc=>absurd hc (by simp)) fun _=>?_;refine wpAny_bind (wpAny_rule ?_);obtain ⟨er,bl,tr,q2⟩:=hr;refine wpAny_bind (bY q2 ?_);dsimp only;refine wpAny_ite_split (fun _=>?_) fun _=>wpAny_pure (h0 _ .rfl);have q3:=q2;obtain ⟨o,ho,hex,hd,hel,hp,hf⟩:=q3;refine wpAny_bind (jc q2 (xs':=ys) hel hp ?_ (A8 hl) fun h' k1 k2=>wpAny_pure (h _ _ .rfl k1 ⟨_,_,_,k2⟩));cases tr;exact hf
end
end
section
theorem tn:entryFor table "set.__or__"=some Builtin.«frozenset.__or__»:= entryFor_alias (id':="frozenset.__or__") (by kernel_rfl) (by first|rfl|decide+kernel|(unfold String.splitOn;simp+decide [String.splitOnAux])) (by decide+kernel) (by kernel_rfl)
theorem pP:entryFor table "set.__xor__"=some Builtin.«frozenset.__xor__»:= entryFor_alias (id':="frozenset.__xor__") (by kernel_rfl) (by first|rfl|decide+kernel|(unfold String.splitOn;simp+decide [String.splitOnAux])) (by decide+kernel) (by kernel_rfl)
theorem sub_set_set:isSubtype (.type "set") (.type "set")=pure true:=by rw [isSubtype_type];kernel_rfl
noncomputable def gW (ys:List Int) (k:Int):List Int:=if k∈ys then ys else ys++[k]
noncomputable def oG (ys:List Int) (k:Int):List Int:=ys.filter (· !=k)
noncomputable def dj (ys:List Int) (k:Int):List Int:=if k∈ys then oG ys k else ys++[k]
noncomputable abbrev eE (xs:List Int):Prop:=∀x∈xs,Sm x
theorem jI (hn:ys.Nodup) (k:Int):(gW ys k).Nodup:=by
 unfold gW;split
 ·exact hn
 ·rename_i h;rw [List.nodup_append];exact ⟨hn,by simp,fun a ha b hb e=>h (by rw [List.mem_singleton] at hb;subst hb;exact e▸ha)⟩
theorem tu (hs:eE ys) {k:Int} (sk:Sm k):eE (gW ys k):=by
 unfold gW;split
 ·exact hs
 ·intro x hx;rcases List.mem_append.mp hx with q|q
  ·exact hs x q
  ·rw [List.mem_singleton.mp q];exact sk
theorem Dv {k x:Int}:x∈gW ys k↔x∈ys∨x=k:=by
 unfold gW;split
 ·rename_i h;exact ⟨.inl,fun q=>q.elim id fun e=>e▸h⟩
 ·simp
theorem xO (hn:ys.Nodup) (k:Int):(oG ys k).Nodup:=hn.filter _
theorem FW (hs:eE ys) (k:Int):eE (oG ys k):=fun x hx=>hs x (List.mem_filter.mp hx).1
theorem lY (hn:ys.Nodup) (k:Int):(dj ys k).Nodup:=by
 unfold dj;split
 ·exact xO hn k
 ·rename_i h;have:=jI hn k
  rwa [gW,if_neg h] at this
theorem Dw (hs:eE ys) {k:Int} (sk:Sm k):eE (dj ys k):=by
 unfold dj;split
 ·exact FW hs k
 ·rename_i h;have:=tu hs sk
  rwa [gW,if_neg h] at this
theorem Ay {k x:Int}:x∈dj ys k↔(x=k∧k∉ys)∨(x≠k∧x∈ys):=by
 unfold dj oG;split
 ·rename_i h;simp only [List.mem_filter,bne_iff_ne,ne_eq,h,not_true,and_false,false_or];exact And.comm
 ·rename_i h;simp only [List.mem_append,List.mem_singleton,h,not_false_eq_true,and_true];constructor
  ·rintro (q|q)
   ·exact .inr ⟨fun e=>h (e▸q),q⟩
   ·exact .inl q
  ·rintro (q|⟨_,q⟩)
   ·exact .inr q
   ·exact .inl q
theorem qG:∀(ks ys:List Int) (x:Int),ks.Nodup→(x∈ks.foldl dj ys↔(x∈ks∧x∉ys)∨(x∉ks∧x∈ys))
 |[],ys,x,_=>by simp
 |k::ks,ys,x,hn=>by
  have hn':=List.nodup_cons.mp hn;rw [List.foldl_cons,qG ks _ x hn'.2,Ay]
  by_cases e:x=k
  ·subst e;simp [hn'.1]
  ·simp [e]
theorem vf:∀(ks ys:List Int),ys.Nodup→(ks.foldl dj ys).Nodup
 |[],_,h=>h
 |k::ks,ys,h=>by rw [List.foldl_cons];exact vf ks _ (lY h k)
theorem tw (ys:List Int) (k:Int):(dj ys k).length≤ys.length+1:=by
 unfold dj oG;split
 ·exact Nat.le_succ_of_le (List.length_filter_le ..)
 ·simp
section
variable {prog:Program} {w:World} {A:Around} {E:Value→Shared→Prop} {s:Shared}
theorem fF {Q:Bool→Shared→Prop} (hT:s.TypeIs (.ref a) "set") (h:Q true s):wpAny (model prog w) A (Builtin.Frozenset.isAnySet (.ref a)) Q E s:=by unfold Builtin.Frozenset.isAnySet;exact wpAny_bind (wpAny_isInstance hT sub_set_set (wpAny_pure h))
theorem qH (hT:s.TypeIs (.ref a) "set") (h:Q (.type "set") s):wpAny (model prog w) A (Builtin.Frozenset.baseOf a) Q E s:=by unfold Builtin.Frozenset.baseOf;exact wpAny_bind (wpAny_isInstance hT sub_set_set (wpAny_pure h))
theorem fJ.typeIs {xs:List Int} (q:fJ s.heap a xs es ep t):s.TypeIs (.ref a) "set":= let ⟨o,ho,hex,_⟩:=q;⟨o,ho,hex.1⟩
theorem bV.typeIs {xs:List Int} (q:bV s.heap a xs):s.TypeIs (.ref a) "set":=let ⟨_,_,_,q⟩:=q;fJ.typeIs q
theorem tB {r:Addr} {k:Int} {Q:Bool→Shared→Prop} (hr:bV s.heap r ys) (hn:ys.Nodup) (hs:eE ys) (hl:ys.length<50) (sk:Sm k)
  (h:∀h',Heap.SameBut r s.heap h'→bV h' r (gW ys k)→Q (!decide (k∈ys)) {s with heap:=h'}):wpAny (model prog w) A (setAddHashed r (.int k tk) k) Q E s:=by
 have e:k=hashInt k:=(dK sk).symm
 have:=wpAny_setAddHashed_of (knd:=intKind prog w) (A:=A) (E:=E) (x:=.int k tk) (k:=k) (Q:=Q) (by simp [intKind,Value.isInt]) rfl (bV.to (p:=prog) (w:=w) hr (NS hl)) (by
  have:scanBound=4096:=rfl
  omega) fun h' Ao hS=>?_
 ·rw [show (intKind prog w).hash k=k from dK sk] at this;exact this
 ·refine h h' Ao (bV.of (p:=prog) (w:=w) ?_ (jI hn k) (tu hs sk));have e1:(fun k'=>decide (k'∈ys)||decide (k'=k))=fun k'=>decide (k'∈gW ys k):=by
   funext x;rw [←Bool.decide_or,decide_eq_decide];exact Dv.symm
  have e2:(if decide (k∈ys)=true then ys.length else ys.length+1)=(gW ys k).length:=by
   unfold gW
   by_cases q:k∈ys <;>simp [q]
  rw [←e1,←e2];exact hS
theorem qI {n:Nat} (hf:t.fits n=true) (hi:i<n):(t.drop i).fits (n-1)=true:=by
 have hf':t.place.size=n∧t.place.size+t.dummies.size≤t.mask:=by simp only [SetTable.fits,SetTable.fill,Bool.and_eq_true,beq_iff_eq] at hf;exact ⟨hf.1,of_decide_eq_true hf.2⟩
 have hlt:i<t.place.size:=NT hi hf';have e:t.drop i={t with place:=SetTable.eraseAt t.place i,dummies:=SetTable.insertAt t.dummies (SetTable.below t.dummies t.place[i]) t.place[i]}:=by unfold SetTable.drop;rw [Array.getElem?_eq_getElem hlt]
 have s1:(SetTable.eraseAt t.place i).size=n-1:=by simp only [SetTable.eraseAt,Array.size_append,Array.size_extract];rw [←hf'.1];exact ers hlt
 have s2:(SetTable.insertAt t.dummies (SetTable.below t.dummies t.place[i]) t.place[i]).size=t.dummies.size+1:=by have:=(SetTable.insertAt_perm t.dummies (SetTable.below t.dummies t.place[i]) t.place[i]).length_eq;simpa using this
 rw [e];simp only [SetTable.fits,SetTable.fill,s1,s2,Bool.and_eq_true,beq_iff_eq,true_and];exact decide_eq_true (NV hf' hlt)
theorem bO (xs:Array α) (i:Nat):(SetTable.eraseAt xs i).toList=xs.toList.eraseIdx i:=by rw [List.eraseIdx_eq_take_drop_succ];simp [SetTable.eraseAt,List.extract_eq_take_drop];rw [List.take_of_length_le (by simp)]
theorem vg {r:Addr} {k:Int} {Q:Bool→Shared→Prop} (hr:bV s.heap r ys) (hn:ys.Nodup) (hl:ys.length<50) (sk:Sm k)
  (h:∀h',Heap.SameBut r s.heap h'→bV h' r (oG ys k)→Q (decide (k∈ys)) {s with heap:=h'}):wpAny (model prog w) A (setDiscardHashed r (.int k tk) k) Q E s:=by
 obtain ⟨es,ep,t,q⟩:=hr;have hsz:=q.size;obtain ⟨o,ho,hex,hd,hel,hp,hf⟩:=id q;have hkey:(intKind prog w).is k (.int k tk)=true:=by simp [intKind,Value.isInt]
 have S0:ElemsOf (intKind prog w) es.toList:=fJ.elems hel;unfold setDiscardHashed;refine wpAny_bind ?_;unfold setFind setFindIn;refine wpAny_bind (bY q ?_);dsimp only;rw [byScan_of (knd:=intKind prog w) rfl (by have:scanBound=4096:=rfl;omega) S0];simp only [↓reduceIte];refine wpAny_bind (wpAny_rule ?_);refine wpAny_bind ?_
 have:=wpAny_setScan_of (A:=A) (E:=E) (adding:=false) (Q:=fun m s'=>wpAny (model prog w) A (match m with
   |.found i=>pure (some i)
   |.absent=>pure none
   |.anew=>setFindIn r (.int k tk) k 99999) (fun a s=>wpAny (model prog w) A (match a with
    |none=>pure false
    |some i=>do
     let (es,_,t)←setState r
     storeSet r (SetTable.eraseAt es i) (t.drop i)
     point
     pure true) Q E s) E s') hkey ho hd hf S0 ?_
 ·rw [show (intKind prog w).hash k=k from dK sk] at this;exact this
 ·cases UL:es.toList.findIdx? (fun e=>(intKind prog w).is k e.2) with
  |none=>
   dsimp only;have hnk:k∉ys:=fun hk=>by obtain ⟨e,he,XY⟩:=(EI.mem (p:=prog) (w:=w) hel k).mp (hp.mem_iff.mpr hk);have:=List.findIdx?_eq_none_iff.mp UL e he;rw [XY] at this;cases this
   refine wpAny_pure (wpAny_pure ?_);have e:s={s with heap:=s.heap}:=by cases s;rfl
   have e2:oG ys k=ys:=List.filter_eq_self.mpr fun x hx=>by simp;exact fun e=>hnk (e▸hx)
   have:=h s.heap (Heap.SameBut.refl ..) (by rw [e2];exact ⟨_,_,_,q⟩);rw [decide_eq_false hnk] at this;rw [e];exact this
  |some j=>
   obtain ⟨hj,hpj,_⟩:=List.findIdx?_eq_some_iff_getElem.mp UL;obtain ⟨s1,t1,e1⟩:=hel _ (List.getElem_mem hj);have ek:(es.toList[j]).1=k:=by rw [e1] at hpj;simpa [intKind,Value.isInt] using hpj
   have hk:k∈ys:=hp.mem_iff.mp (List.mem_map.mpr ⟨_,List.getElem_mem hj,ek⟩);have hjs:j<es.size:=by simpa using hj
   have pe:=gH es.toList j hj;have pk:((SetTable.eraseAt es j).toList.map (·.1)).Perm (oG ys k):=by
    rw [bO];have p1:=(pe.map (·.1)).trans hp;rw [List.map_cons,ek] at p1;have p2:=(List.cons_perm_iff_perm_erase.mp p1).2
    rwa [hn.erase_eq_filter] at p2
   have hz:(SetTable.eraseAt es j).size=es.size-1:=by have:=congrArg List.length (bO es j);rw [List.length_eraseIdx_of_lt hj] at this;simpa using this
   simp only [Nat.zero_add];refine wpAny_pure ?_;refine wpAny_bind (bY q ?_);dsimp only;refine wpAny_bind (jc q (xs':=oG ys k) (fun e he=>?_) pk (by rw [hz];exact qI hf hjs) (by have:=List.length_filter_le (· !=k) ys;unfold oG;exact NU hl this) fun h' k1 k2=>?_)
   ·rw [bO] at he;exact hel e (List.mem_of_mem_eraseIdx he)
   ·refine wpAny_bind (wpAny_point (wpAny_pure ?_));have:=h h' k1 ⟨_,_,_,k2⟩
    rwa [decide_eq_true hk] at this
end
end
section
theorem cC {xs:List Int} (hn:xs.Nodup) (hs:eE xs):xs.length≤7:=by
 have h:∀(u xs:List Int),xs.Nodup→(∀x∈xs,x∈u)→xs.length≤u.length:=by
  intro u;induction u with
  |nil=>
   intro xs _ h;rcases xs with _|⟨x,xs⟩
   ·simp
   ·exact absurd (h x (by simp)) (by simp)
  |cons a u ih=>
   intro xs hn h
   have XZ:=ih (xs.filter (· !=a)) (hn.filter _) (fun x hx=>by
    obtain ⟨h1,h2⟩:=List.mem_filter.mp hx;rcases List.mem_cons.mp (h x h1) with q|q
    ·simp [q] at h2
    ·exact q)
   rw [←hn.erase_eq_filter] at XZ
   by_cases q:a∈xs
   ·simp only [List.length_cons];exact QJ XZ (List.length_erase_of_mem q)
   ·have e:(xs.erase a).length=xs.length:=by rw [List.erase_of_not_mem q]
    rw [←e];exact Nat.le_succ_of_le XZ
 refine h [0,1,2,3,4,5,6] xs hn fun x hx=>?_;have s:=hs x hx;have:=GZ s.1 s.2;simpa using this
theorem bx {b:Addr} (e:h.get? b=some o):b<h.objs.size:=by
 rcases Nat.lt_or_ge b h.objs.size with q|q
 ·exact q
 ·rw [aM q] at e;cases e
section
variable {prog:Program} {w:World} {A:Around} {E:Value→Shared→Prop} {s:Shared}
theorem gI {id:String} {xs:List Int} {Q:Unit→Shared→Prop} (q:fJ s.heap a xs es ep t) (h:Q () s):
  wpAny (model prog w) A (Builtin.Frozenset.unchanged id a ep) Q E s:=by
 unfold Builtin.Frozenset.unchanged;refine wpAny_bind (jb q ?_);simp only [bne_self_eq_false,Bool.false_eq_true,↓reduceIte];exact wpAny_pure h
theorem Az {r:Addr} {xs:List Int} {k:Int} {id:String} {Q:Unit→Shared→Prop} (hne:r≠a) (hr:bV s.heap r xs) (hx:xs≠[]) (hn:xs.Nodup) (hs:eE xs) (sk:Sm k)
  (ho:fJ s.heap a [k] es ep t) (h:∀h',Heap.SameBut r s.heap h'→bV h' r (gW xs k)→Q () {s with heap:=h'}):
  wpAny (model prog w) A (setMerge r a (Builtin.Frozenset.unchanged id a ep)) Q E s:=by
 have hl:=cC hn hs;have hes:=ho.size;unfold setMerge;refine wpAny_ite_split (fun hc=>absurd (by simpa using hc) hne) fun _=>?_;refine wpAny_bind (bY ho ?_);dsimp only;refine wpAny_ite_split (fun hc=>absurd (by simpa using hc) (show es≠#[] from fun q=>by rw [q] at hes;simp at hes)) fun _=>?_;obtain ⟨er,ep0,tr,q⟩:=hr;refine wpAny_bind (zd q hn hl (by rw [hes];simp) fun h' es' fj t' k1 k2 _=>?_);refine wpAny_bind (bY (s:={s with heap:=h'}) k2 ?_);dsimp only;have ho':=ho.same k1 (Ne.symm hne);have hroad:t'.road t=.oneByOne:=by have hz:=k2.size;obtain ⟨o,_,_,_,_,_,hf⟩:=k2;simp only [SetTable.fits,Bool.and_eq_true,beq_iff_eq] at hf;have:0<xs.length:=List.length_pos_iff.mpr hx;unfold SetTable.road;rw [if_pos];simp only [SetTable.fill,bne_iff_ne,ne_eq];omega
 rw [hroad];dsimp only;refine wpAny_bind (qF (s:={s with heap:=h'}) hne ho' ⟨_,_,_,k2⟩ (by omega) fun bg h2 p2 k3 k4=>?_);have e1:∃tk,es.toList=[(k,.int k tk)]:=by obtain ⟨o,_,_,_,hel,hp,_⟩:=ho;have hm:es.toList.map (·.1)=[k]:=List.perm_singleton.mp hp;obtain ⟨e,he,e2⟩:=List.map_eq_singleton_iff.mp hm;obtain ⟨_,tk,e3⟩:=hel e (by rw [he];simp);refine ⟨tk,?_⟩;rw [he,←e2,←e3]
 obtain ⟨tk,e1⟩:=e1;have e2:bg.toList=[(k,.int k tk)]:=by rw [e1] at p2;exact List.perm_singleton.mp p2
 rw [←Array.forIn_toList,e2,List.forIn_cons];have ho2:=ho'.same k3 (Ne.symm hne);refine wpAny_bind ?_;dsimp only;refine wpAny_bind ?_;refine wpAny_bind ?_;refine wpAny_holding ?_;refine tB (s:={s with heap:=h2}) k4 hn hs (QK hl) sk fun h3 k5 k6=>?_;have ho3:=fJ.same (h:=h2) ho2 k5 (Ne.symm hne);refine wpAny_bind (gI (s:={s with heap:=h3}) ho3 ?_);refine wpAny_bind (bY (s:={s with heap:=h3}) ho3 ?_);simp only [bne_self_eq_false,Bool.false_eq_true,↓reduceIte];refine wpAny_pure ?_;dsimp only;rw [List.forIn_nil];exact wpAny_pure (wpAny_pure (h h3 ((k1.trans k3).trans k5) k6))
theorem jJ (h:∀o t,fJ (s.heap.push o) s.heap.objs.size [] #[] 0 t→t.dummies=#[]→7≤t.mask→Q (.ref s.heap.objs.size) {s with heap:=s.heap.push o}):
  wpAny (model prog w) A (newSet (.type "set")) Q E s:=by
 unfold newSet setsByText;refine wpAny_bind (wpAny_bind (wpAny_askSetting (wpAny_pure ?_)));dsimp only;simp only [newObj];exact wpAny_bind (wpAny_alloc (wpAny_pure (h _ _ ⟨_,Heap.get?_push_size _ rfl,⟨rfl,rfl,rfl⟩,rfl,fun e he=>by simp at he,by simp,by rfl⟩ rfl (Nat.le_refl 7))))
theorem FY {xs:List Int} (ho:fJ s.heap a xs es ep t) (hn:xs.Nodup) (hs:eE xs) (hx:xs≠[])
  (h:∀h',Kp s.heap h'→h'.objs.size=s.heap.objs.size+1→bV h' s.heap.objs.size xs→Q (.ref s.heap.objs.size) {s with heap:=h'}):wpAny (model prog w) A (Builtin.Frozenset.copyOf a) Q E s:=by
 have ha:a<s.heap.objs.size:=by obtain ⟨o,ho,_⟩:=ho;exact bx ho
 unfold Builtin.Frozenset.copyOf;refine wpAny_bind (qH ho.typeIs ?_);refine wpAny_bind (jJ fun o t0 k1 k2 k3=>?_);refine wpAny_bind (m:=Builtin.Frozenset.addrOf _) (wpAny_pure ?_);have ho':fJ (s.heap.push o) a xs es ep t:=let ⟨o',q,r⟩:=ho;⟨o',Heap.get?_push_of_some o q,r⟩
 refine wpAny_bind (lX (s:={s with heap:=s.heap.push o}) (Nat.ne_of_gt ha) k1 k2 k3 ho' hn (cC hn hs) hx fun h' k4 k5=>wpAny_pure ?_);refine h h' (fun b o' e=>?_) (k4.1.trans (by simp)) k5;rw [k4.2 b (Nat.ne_of_lt (bx e))];exact Heap.get?_push_of_some _ e
theorem xP {id:String} {xs:List Int} (ho:fJ s.heap a xs es ep t) (hn:xs.Nodup) (hs:eE xs) (hx:xs≠[])
  (h:∀h',Kp s.heap h'→h'.objs.size=s.heap.objs.size+1→bV h' s.heap.objs.size xs→Q (.ref s.heap.objs.size) {s with heap:=h'}):wpAny (model prog w) A (Builtin.Frozenset.newFrom id (.type "set") (.ref a)) Q E s:=by
 have ha:a<s.heap.objs.size:=by obtain ⟨o,ho,_⟩:=ho;exact bx ho
 unfold Builtin.Frozenset.newFrom;refine wpAny_bind (jJ fun o t0 k1 k2 k3=>?_);have ho':fJ (s.heap.push o) a xs es ep t:=let ⟨o',q,r⟩:=ho;⟨o',Heap.get?_push_of_some o q,r⟩
 refine wpAny_bind (m:=Builtin.Frozenset.addrOf _) (wpAny_pure ?_);refine wpAny_bind ?_;refine wpAny_holding ?_;unfold Builtin.Frozenset.updateFrom;refine wpAny_bind (fF (s:={s with heap:=s.heap.push o}) ho'.typeIs ?_);refine wpAny_ite_split (fun _=>?_) fun hc=>absurd rfl hc;refine wpAny_bind (m:=Builtin.Frozenset.addrOf _) (wpAny_pure ?_);unfold Builtin.Frozenset.merge;refine wpAny_bind (jb (s:={s with heap:=s.heap.push o}) ho' ?_);refine lX (s:={s with heap:=s.heap.push o}) (Nat.ne_of_gt ha) k1 k2 k3 ho' hn (cC hn hs) hx fun h' k4 k5=>wpAny_pure ?_;refine h h' (fun b o' e=>?_) (k4.1.trans (by simp)) k5;rw [k4.2 b (Nat.ne_of_lt (bx e))];exact Heap.get?_push_of_some _ e
theorem FZ {a:List Int} {k:Int} (ha:bV s.heap la a) (hb:bV s.heap lb [k]) (hn:a.Nodup) (hs:eE a) (hx:a≠[]) (sk:Sm k)
  (h:∀h',Kp s.heap h'→bV h' s.heap.objs.size (gW a k)→Q (.ref s.heap.objs.size) {s with heap:=h'}):
  wpAny (model prog w) A (Builtin.«frozenset.__or__» ⟨[.ref la,.ref lb],[]⟩) (fun fin s'=>∃r,fin=.done (.ret r)∧Q r s') E s:=by
 obtain ⟨es,ep,t,qa⟩:=ha;obtain ⟨eb,DY,tb,qb⟩:=hb;have hlb:lb<s.heap.objs.size:=by obtain ⟨o,ho,_⟩:=qb;exact bx ho
 refine wpAny_bind (m:=Builtin.Frozenset.slot1 _ _) (wpAny_pure ?_);refine wpAny_bind (wpAny_bind (fF qa.typeIs ?_));show wpAny _ _ (Builtin.Frozenset.isAnySet (.ref lb)) _ _ _;refine fF qb.typeIs ?_;refine wpAny_ite_split (fun hc=>absurd hc (by simp)) fun _=>?_;refine wpAny_bind (m:=Builtin.Frozenset.addrOf _) (wpAny_pure ?_);refine wpAny_bind ?_;refine wpAny_bind (FY qa hn hs hx fun h' k1 hz k2=>?_);have X0:fJ h' lb [k] eb DY tb:=let ⟨o',q,r⟩:=qb;⟨o',k1 _ _ q,r⟩
 refine wpAny_ite_split (fun hc=>?_) fun hc=>?_
 ·refine wpAny_bind (m:=Builtin.Frozenset.addrOf _) (wpAny_pure ?_);refine wpAny_bind ?_;refine wpAny_holding ?_;unfold Builtin.Frozenset.updateFrom;refine wpAny_bind (fF (s:={s with heap:=h'}) X0.typeIs ?_);refine wpAny_ite_split (fun _=>?_) fun hc=>absurd rfl hc;refine wpAny_bind (m:=Builtin.Frozenset.addrOf _) (wpAny_pure ?_);unfold Builtin.Frozenset.merge;refine wpAny_bind (jb (s:={s with heap:=h'}) X0 ?_);refine Az (s:={s with heap:=h'}) (Nat.ne_of_gt hlb) k2 hx hn hs sk X0 fun h2 k3 k4=>?_;refine wpAny_pure (wpAny_pure ⟨_,rfl,h h2 (fun b o e=>?_) k4⟩);rw [k3.2 b (Nat.ne_of_lt (bx e))];exact k1 b o e
 ·have e:lb=la:=by
   have hc:¬((Value.ref lb !=Value.ref la)=true):=hc;simpa using hc
  subst e;have ek:k∈a:=by obtain ⟨o1,g1,_,d1,_,p1,_⟩:=qa;obtain ⟨o2,g2,_,d2,_,p2,_⟩:=qb;rw [g1] at g2;cases g2;rw [d1] at d2;cases d2;exact p1.mem_iff.mp (p2.mem_iff.mpr (by simp))
  refine wpAny_pure (wpAny_pure ⟨_,rfl,h h' k1 ?_⟩);rw [gW,if_pos ek];exact k2
end
end
section
section
variable {prog:Program} {w:World} {A:Around} {E:Value→Shared→Prop} {s:Shared}
inductive XI (s:Shared) (h2:Heap) (G:List Int):List (Int×Value)→Shared→Prop
 |mk (g:Heap) (ys:List Int) (rest:List (Int×Value)) (Ao:Heap.SameBut s.heap.objs.size h2 g) (hg:bV g s.heap.objs.size ys) (ny:ys.Nodup) (sy:eE ys) (Ml:ys.length+rest.length<40) (hr:EI rest) (hf:(rest.map (·.1)).foldl dj ys=G):XI s h2 G rest {s with heap:=g}
theorem Dy {a b:List Int} (ha:bV s.heap la a) (hb:bV s.heap lb b) (na:a.Nodup) (nb:b.Nodup) (sa:eE a) (sb:eE b) (hx:b≠[])
  (h:∀h' xs,Kp s.heap h'→bV h' s.heap.objs.size xs→xs.Nodup→(∀x,x∈xs↔(x∈a∧x∉b)∨(x∉a∧x∈b))→Q (.ref s.heap.objs.size) {s with heap:=h'}):
  wpAny (model prog w) A (Builtin.«frozenset.__xor__» ⟨[.ref la,.ref lb],[]⟩) (fun fin s'=>∃r,fin=.done (.ret r)∧Q r s') E s:=by
 obtain ⟨es,ep,t,qa⟩:=ha;obtain ⟨eb,DY,tb,qb⟩:=hb;have hla:la<s.heap.objs.size:=by obtain ⟨o,ho,_⟩:=qa;exact bx ho
 refine wpAny_bind (m:=Builtin.Frozenset.slot1 _ _) (wpAny_pure ?_);refine wpAny_bind (wpAny_bind (fF qa.typeIs ?_));show wpAny _ _ (Builtin.Frozenset.isAnySet (.ref lb)) _ _ _;refine fF qb.typeIs ?_;refine wpAny_ite_split (fun hc=>absurd hc (by simp)) fun _=>?_;refine wpAny_bind (m:=Builtin.Frozenset.addrOf _) (wpAny_pure ?_);refine wpAny_bind ?_;refine wpAny_bind (qH qa.typeIs ?_);refine wpAny_bind (xP qb nb sb hx fun h' k1 hz k2=>?_);have S1:fJ h' la a es ep t:=let ⟨o',q,r⟩:=qa;⟨o',k1 _ _ q,r⟩
 refine wpAny_bind (m:=Builtin.Frozenset.addrOf _) (wpAny_pure ?_);refine wpAny_bind ?_;refine wpAny_holding ?_;unfold Builtin.Frozenset.symmetricDifferenceUpdate;refine wpAny_ite_split (fun hc=>absurd (by simpa using hc) (Nat.ne_of_lt hla)) fun _=>?_;refine wpAny_bind (wpAny_typeOf (T:="set") (s:={s with heap:=h'}) S1.typeIs ?_);refine wpAny_ite_split (fun hc=>absurd hc (by decide+kernel)) fun _=>?_;refine wpAny_bind (fF (s:={s with heap:=h'}) S1.typeIs ?_);refine wpAny_ite_split (fun _=>?_) fun hc=>absurd rfl hc;refine wpAny_bind (wpAny_pure ?_);refine wpAny_bind (m:=Builtin.Frozenset.addrOf _) (wpAny_pure ?_);refine wpAny_bind (jb (s:={s with heap:=h'}) S1 ?_);refine wpAny_holding ?_;have hl:=cC nb sb;have X6:=cC na sa;refine wpAny_bind (qF (s:={s with heap:=h'}) (Nat.ne_of_gt hla) S1 k2 (by omega) fun bg h2 p2 k3 k4=>?_);have X7:EI bg.toList:=by obtain ⟨_,_,_,_,hel,_⟩:=qa;exact hel.perm p2
 have hp2:(bg.toList.map (·.1)).Perm a:=by obtain ⟨_,_,_,_,_,hp,_⟩:=qa;exact (p2.map _).trans hp
 have hn2:(bg.toList.map (·.1)).Nodup:=hp2.nodup_iff.mpr na;have hlen2:bg.toList.length≤7:=by have:=hp2.length_eq;simp only [List.length_map] at this;exact G9 X6 this
 have qa2:=fJ.same (h:=h') S1 k3 (Nat.ne_of_lt hla);rw [←Array.forIn_toList];refine wpAny_bind (wpAny_forIn_list _ (fun rest _ s'=>XI s h2 ((bg.toList.map (·.1)).foldl dj b) rest s') _ ?_ ?_ _ _ (.mk h2 b _ (Heap.SameBut.refl ..) k4 nb sb (Rj hl hlen2) X7 rfl))
 ·rintro ⟨k,v⟩ rest _ _ ⟨g,ys,_,Ao,hg,ny,sy,Ml,hr,vh⟩;obtain ⟨sk,tk,ev⟩:=hr (k,v) (by simp);simp only at ev sk;subst ev;have Ml:ys.length+(rest.length+1)<40:=Ml;dsimp only;have fin:∀g',Heap.SameBut s.heap.objs.size g g'→bV g' s.heap.objs.size (dj ys k)→fJ g' la a es ep t∧XI s h2 ((bg.toList.map (·.1)).foldl dj b) rest {s with heap:=g'}:=fun g' w1 w2=>
   ⟨fJ.same (h:=h2) qa2 (Ao.trans w1) (Nat.ne_of_lt hla),.mk g' (dj ys k) _ (Ao.trans w1) w2 (lY ny k) (Dw sy sk) (Rk Ml (tw ys k)) (fun e he=>hr e (List.mem_cons_of_mem _ he)) vh⟩
  refine wpAny_bind ?_;refine wpAny_holding ?_;refine wpAny_bind (vg (s:={s with heap:=g}) hg ny (HM Ml) sk fun g1 w1 w2=>?_)
  by_cases hk:k∈ys
  ·rw [decide_eq_true hk];refine wpAny_ite_split (fun hc=>absurd hc (by simp)) fun _=>?_;refine wpAny_pure ?_;obtain ⟨f1,f2⟩:=fin g1 w1 (by rw [dj,if_pos hk];exact w2);exact wpAny_bind (gI (s:={s with heap:=g1}) f1 (wpAny_pure f2))
  ·rw [decide_eq_false hk];have ed:oG ys k=ys:=List.filter_eq_self.mpr fun x hx=>by simp;exact fun e=>hk (e▸hx)
   rw [ed] at w2;refine wpAny_ite_split (fun _=>?_) fun hc=>absurd rfl hc;refine wpAny_bind (tB (s:={s with heap:=g1}) w2 ny sy (HM Ml) sk fun g2 w3 w4=>?_);refine wpAny_pure ?_;obtain ⟨f1,f2⟩:=fin g2 (w1.trans w3) (by rw [dj,if_neg hk];rwa [gW,if_neg hk] at w4);exact wpAny_bind (gI (s:={s with heap:=g2}) f1 (wpAny_pure f2))
 ·rintro _ _ ⟨g,ys,_,Ao,hg,ny,sy,_,_,vh⟩;refine wpAny_pure (wpAny_pure (wpAny_pure ⟨_,rfl,h g ys (fun b o e=>?_) hg ny fun x=>?_⟩))
  ·rw [Ao.2 b (Nat.ne_of_lt (bx e)),k3.2 b (Nat.ne_of_lt (bx e))];exact k1 b o e
  ·have vh:ys=(bg.toList.map (·.1)).foldl dj b:=vh;rw [vh,qG _ _ x hn2,hp2.mem_iff]
end
section
variable {X:Cx}
theorem tC {xs:List Int} (ha:a∉Mu) (q:bV h a xs) (hn:xs.Nodup) (hs:eE xs):RV X h Mu (.cI xs) (.ref a):=by have:=cC hn hs;exact Exists.intro a ⟨rfl,ha,bV.to q (Ri this),hn,this,hs⟩
theorem oH {xs:List Int} {v:Value} (r:RV X h Mu (.cI xs) v):∃a,v=.ref a∧bV h a xs∧xs.Nodup∧eE xs:=by obtain ⟨a,rfl,_,q,hn,_,hs⟩:=r;exact ⟨a,rfl,bV.of q hn hs,hn,hs⟩
theorem bV.perm {xs:List Int} (q:bV h a xs) (p:xs.Perm ys):bV h a ys:=let ⟨_,_,_,q⟩:=q;⟨_,_,_,q.perm p⟩
theorem F7 (xs:List Int) (k:Int):xs++[k].filter (fun y=>!xs.contains y)=gW xs k:=by
 unfold gW
 by_cases q:k∈xs
 ·rw [if_pos q,List.filter_cons_of_neg (by rw [List.contains_iff_mem.mpr q];decide)];exact List.append_nil _
 ·have hc:xs.contains k=false:=by rw [←Bool.not_eq_true];exact fun z=>q (List.contains_iff_mem.mp z)
  rw [if_neg q,List.filter_cons_of_pos (by rw [hc];rfl)];rfl
theorem Dz {xs zs:List Int} (na:xs.Nodup) (nb:ys.Nodup) (nz:zs.Nodup) (h:∀x,x∈zs↔(x∈xs∧x∉ys)∨(x∉xs∧x∈ys)):
  (xs.filter (fun k=>!ys.contains k)++ys.filter fun k=>!xs.contains k).Nodup∧zs.Perm (xs.filter (fun k=>!ys.contains k)++ys.filter fun k=>!xs.contains k):=by
 have mem:∀{xs ys:List Int} {u:Int},u∈xs.filter (fun k=>!ys.contains k)↔u∈xs∧u∉ys:=fun {xs ys u}=>by rw [List.mem_filter,Bool.not_eq_true',List.contains_eq_mem,decide_eq_false_iff_not]
 have nn:(xs.filter (fun k=>!ys.contains k)++ys.filter fun k=>!xs.contains k).Nodup:=by rw [List.nodup_append];exact ⟨na.filter _,nb.filter _,fun u hu v hv e=>(mem.mp hv).2 (e▸(mem.mp hu).1)⟩
 refine ⟨nn,(List.perm_ext_iff_of_nodup nz nn).mpr fun u=>?_⟩;rw [h,List.mem_append,mem,mem,and_comm (a:=u∉xs)]
theorem KX:rQ X:=by
 intro A E Q s Mu op a b va vb v hh hu hM he ra rb p;obtain ⟨la,rfl,qa,na,sa⟩:=oH ra;obtain ⟨lb,rfl,qb,nb,sb⟩:=oH rb;have hfr:s.heap.objs.size∉Mu:=bk hM;cases op <;>first|exact no he|skip
 ·cases a with
  |nil=>exact no he
  |cons x r=>
   cases b with
   |nil=>exact no he
   |cons k t=> refine oi he fun hc X8=>ba hc fun ht _=>bq (P:=fun t=>bV s.heap lb (k::t)→_) ht (fun qb=>?_) qb;have sk:Sm k:=sb k (List.mem_cons_self ..);refine wpAny_binaryOp_same (op:=.BitOr) qa.typeIs qb.typeIs F.fills_set_or F.slot_set_or (wpAny_call_entry F.slot_set_or qa.typeIs tn ?_ (F.args_set_or_2 _ _));refine FZ (s:={s with toks:=s.toks}) qa qb na sa (List.cons_ne_nil _ _) sk fun h' k1 k2=>⟨(fun q=>nomatch q),?_⟩;exact os (P:=fun v=>Post X Mu s v Q→_) X8 (fun p=>p _ h' _ k1 (by rw [F7];exact tC hfr k2 (jI na k) (tu sa sk))) p
 ·refine oi he fun hc X8=>ba hc fun hc _=>ba hc fun _ hb=>?_;refine wpAny_binaryOp_same (op:=.BitXor) qa.typeIs qb.typeIs F.fills_set_xor F.slot_set_xor (wpAny_call_entry F.slot_set_xor qa.typeIs pP ?_ (F.args_set_xor_2 _ _));refine Dy (s:={s with toks:=s.toks}) qa qb na nb sa sb (fun q=>by rw [q] at hb;cases hb) fun h' xs k1 k2 nx hx=>⟨(fun q=>nomatch q),?_⟩;obtain ⟨nz,pz⟩:=Dz na nb nx hx;exact os (P:=fun v=>Post X Mu s v Q→_) X8 (fun p=>p _ h' _ k1 (tC hfr (k2.perm pz) nz fun u hu=>Me hu (fun q=>sa u (List.mem_filter.mp q).1) fun q=>sb u (List.mem_filter.mp q).1)) p
end
end
section
section
variable {X:Cx} {C:Calls} {n:Nat}
theorem AA {E:Value→Shared→Prop} {Q:Bool→Shared→Prop} (c:sG X env.code) (hold:Kp X.h₀ s.heap) (h:∀b,Q b s):wpAny (model X.prog X.w) A (inMainModule env) Q E s:=by
 obtain ⟨c,o,vs,e,g,hd⟩:=c;unfold inMainModule;refine wpAny_ite_split (fun _=>wpAny_pure (h _)) fun _=>?_;rw [e];refine wpAny_bind (wpAny_fieldsOf (hold _ _ g) hd ?_);split
 ·exact wpAny_bind (wpAny_askSetting (wpAny_pure (h _)))
 ·exact wpAny_pure (h _)
theorem F8 {x:PE} (hx:bL X C n x):bL X C n (.fk x):=by
 intro env m ow Mu s A E Q v e F ok hm he p;refine wW (P:=fun e=>wpAny _ A (eval e env) Q E s) hm fun a pos ma hst=>ob he fun vi hvi he=>ob he fun i hi he=>oi he fun hz he=>os (P:=fun v=>Post X Mu s v Q→_) he (fun p=>?_) p;refine cK (P:=fun vi=>ev C m x=some vi→_) hi (fun hi=>?_) hvi;have hs:Sm i:=ba hz fun h1 h2=>⟨of_decide_eq_true h1,of_decide_eq_true h2⟩;rw [arm_eval_Set];refine wpAny_bind (wpAny_standAt ?_);refine wpAny_bind (AA F.code F.hold fun b=>?_);rw [show starEach [a] env=[(false,eval a env)] from Ic hst];unfold setDisplay;refine wpAny_ite_split (fun hc=>nf hc) fun _=>?_;refine wpAny_bind (jJ fun o t k1 k2 k3=>?_);dsimp only;refine wpAny_bind ?_;refine wpAny_holding ?_;refine wpAny_bind ?_;refine wpAny_evalAll_cons (wpAny_bind (hx env m ow Mu _ A E _ (.int i) a (F.kp aA) ok ma hi fun val h₁ tk₁ w1 r1=>?_));refine wpAny_bind (wpAny_standAt (wpAny_pure (wpAny_evalAll_nil ?_)))
 obtain ⟨tk,rfl⟩:=r1;refine wpAny_bind ?_;refine wpAny_holding ?_;refine wpAny_bind ?_;rw [List.forIn_cons];refine wpAny_bind ?_;refine wpAny_bind ?_;unfold setAdd;refine wpAny_holding ?_;refine wpAny_bind (wpAny_pyHash_int ?_);rw [dK hs];have q1:bV h₁ s.heap.objs.size []:=⟨_,_,_,let ⟨o',g,r⟩:=k1;⟨o',w1 _ _ g,r⟩⟩;refine tB (s:={s with heap:=h₁,toks:=tk₁+1}) q1 List.nodup_nil (fun x hx=>nomatch hx) (by decide) hs fun h2 w2 w3=>?_;refine wpAny_pure ?_;dsimp only;rw [List.forIn_nil];refine wpAny_pure ?_;refine wpAny_ite_split (fun hc=>nf hc) fun _=>?_;refine wpAny_pure ?_;refine wpAny_bind ?_;show wpAny _ _ (forIn [] _ _) _ _ _;rw [List.forIn_nil];refine wpAny_pure (wpAny_pure (wpAny_pure ?_));refine p _ h2 _ (fun b o e=>?_) (tC (bk F.ex) w3 (List.nodup_cons.mpr ⟨List.not_mem_nil,List.nodup_nil⟩) fun z hz=>List.mem_singleton.mp hz▸hs);rw [w2.2 b (Nat.ne_of_lt (bx e))];exact w1 _ _ (aA _ _ e)
end
theorem hyS (G:Gn X):XR X where
 sb:=KX
 s1:=fun _ _ _ hx=>F8 hx
 tm:=fun _ _ _ _ HC hx=>SW G HC hx
 fe:=fun _ _ _ _ _ _ _ EV ha=>xx G EV ha
 su:=fun _ _ _ _ _ _ _ EV=>FU EV
theorem sound {T:Nat→Option FD} (G:Gn X) (HF:∀f d,T f=some d→uS X f d) (n:Nat):fV X (lv T K n) n∧xu X (lv T K n) n:=Ik G (hyS G) HF n
end
section
noncomputable abbrev aJ:Option Value:=some (.ref 6)
noncomputable def Reach (p:Program) (w:World) (n:Nat) (s:Shared) (t:Thread) (s':Shared) (t':Thread):Prop:= ∀M r,topRun treeTable p w 11 aJ M s' t'=some r→topRun treeTable p w 11 aJ (n+M) s t=some r
section
variable {p:Program} {w:World} {n m:Nat} {s s' s₁ s₂:Shared} {t t' t₁ t₂:Thread}
theorem Reach.refl:Reach p w 0 s t s t:=fun M r h=>by rwa [Nat.zero_add]
theorem Reach.trans (a:Reach p w n s t s₁ t₁) (b:Reach p w m s₁ t₁ s₂ t₂):Reach p w (n+m) s t s₂ t₂:=fun M r h=>by rw [Nat.add_assoc];exact a _ r (b _ r h)
theorem Reach.mono {n':Nat} (h:Reach p w n s t s' t') (hn:n≤n'):Reach p w n' s t s' t':=fun M r q=>by rw [show n'+M=(n+M)+(n'-n) by exact VA hn];exact topRun_mono _ _ _ _ _ (h M r q)
theorem F9 {P:Sem PySem.Fin→Prop} {cur:Sem PySem.Fin} (h:(match cur with|.pure (.done _)=>true|_=>false)=true) (k:∀f,P (.pure (.done f))):P cur:=by
 cases cur
 case pure f=>
  cases f with
  |done f=>exact k f
  |again c=>exact nf h
 all_goals exact nf h
theorem AD {P:Prop} {o:Outcome} (e:finish o s=.go s' t'):P:=by unfold finish at e;split at e <;>cases e
theorem vm (e:step (denote treeTable) p w s t=.go s' t'):through t=false:=by
 obtain ⟨heap,gens,drawn,toks,os⟩:=s;obtain ⟨cur,code,pos,stack⟩:=t;cases h:through ⟨cur,code,pos,stack⟩ with
 |false=>rfl
 |true=> refine ba h fun h1 h2=>?_;obtain rfl:stack=[]:=List.isEmpty_iff.mp h1;exact F9 (P:=fun cur=>step (denote treeTable) p w ⟨heap,gens,drawn,toks,os⟩ ⟨cur,code,pos,[]⟩=.go s' t'→true=false) h2 (fun f e=>AD e) e
theorem Reach.step (h:stepOk 11 aJ t=true) (e:step (denote treeTable) p w s t=.go s' t'):Reach p w 1 s t s' t':=fun M r hM=>by rw [Nat.add_comm];unfold topRun;rw [vm e,h,e];exact hM
theorem aS {b:Nat}:∀{n:Nat} {s s':Shared} {t t':Thread},segGo treeTable p w 11 aJ b n s t=some (s',t')→Reach p w n s t s' t'
 |0,s,s',t,t',h=>by simp only [segGo,Option.some.injEq,Prod.mk.injEq] at h;obtain ⟨rfl,rfl⟩:=h;exact Reach.refl
 |n+1,s,s',t,t',h=>by
  unfold segGo at h;cases he:endAt b t with
  |some f=>rw [he] at h;cases h
  |none=>
   rw [he] at h;cases hk:stepOk 11 aJ t with
   |false=>rw [hk] at h;cases h
   |true=>
    rw [hk] at h;cases hs:PySem.step (denote treeTable) p w s t with
    |halt o s₂=>rw [hs] at h;cases h
    |go s₂ t₂=>
     rw [hs] at h;have:=(Reach.step hk hs).trans (aS h)
     rwa [Nat.add_comm] at this
end
noncomputable def zf:Code→Bool
 |.builtin id _=>!(id.startsWith "lifetime.")
 |_=>true
inductive CF (den:Code→Sem PySem.Fin) (p:Program) (w:World):(α:Type)→Nat→Sem α→Shared→α→Shared→Prop
 |pure {α:Type} {n:Nat} {a:α} {s:Shared}:CF den p w α n (.pure a) s a s
 |rule {α:Type} {n:Nat} {t:String} {k:Unit→Sem α} {a:α} {s s':Shared} (h:CF den p w α n (k ()) s a s'):CF den p w α (n+1) (.rule t k) s a s'
 |load {α:Type} {n:Nat} {x:Addr} {y:Option Value} {o:Obj} {k:Obj→Sem α} {a:α} {s s':Shared} (e:s.heap.get? x=some o) (h:CF den p w α n (k o) s a s'):CF den p w α (n+1) (.load x y k) s a s'
 |update {α:Type} {n:Nat} {x:Addr} {y:Option Value} {f:Obj→Obj} {k:Unit→Sem α} {a:α} {s s':Shared} (h1:11≤x) (h2:(s.heap.get? x).isSome=true) (h:CF den p w α n (k ()) {s with heap:=s.heap.update x f} a s'):CF den p w α (n+1) (.update x y f k) s a s'
 |alloc {α:Type} {n:Nat} {o:Obj} {k:Addr→Sem α} {a:α} {s s':Shared} (h:CF den p w α n (k s.heap.objs.size) {s with heap:=s.heap.push o} a s'):CF den p w α (n+1) (.alloc o k) s a s'
 |ask {α:Type} {n:Nat} {k:Setting→Sem α} {a:α} {s s':Shared} (h:CF den p w α n (k ⟨p,w.params⟩) s a s'):CF den p w α (n+1) (.ask k) s a s'
 |point {α:Type} {n:Nat} {l:List Value} {k:Unit→Sem α} {a:α} {s s':Shared} (h:CF den p w α n (k ()) s a s'):CF den p w α (n+1) (.point l k) s a s'
 |fresh {α:Type} {n:Nat} {k:Tok→Sem α} {a:α} {s s':Shared} (h:CF den p w α n (k s.toks) {s with toks:=s.toks+1} a s'):CF den p w α (n+1) (.fresh k) s a s'
 |call {α:Type} {n:Nat} {c:Code} {hd:Option Value} {g:Bool} {l:List Value} {k:Result→Sem α} {f:Flow} {a:α} {s s₁ s':Shared} (e:CF den p w PySem.Fin n (den c) s (.done f) s₁) (h:CF den p w α n (k (.ok f)) s₁ a s'):CF den p w α (n+1) (.call c hd g l k) s a s'
 |call2 {α:Type} {n:Nat} {c c':Code} {hd:Option Value} {g:Bool} {l:List Value} {k:Result→Sem α} {f:Flow} {a:α} {s s₁ s₂ s':Shared} (e:CF den p w PySem.Fin n (den c) s (.again c') s₁) (q:zf c'=true) (e':CF den p w PySem.Fin n (den c') s₁ (.done f) s₂) (h:CF den p w α n (k (.ok f)) s₂ a s'):CF den p w α (n+1) (.call c hd g l k) s a s'
noncomputable def doneF:PySem.Fin→Option Flow
 |.done f=>some f
 |.again _=>none
theorem DA {P:PySem.Fin→Prop} {x:PySem.Fin} {f:Flow} (h:doneF x=some f) (k:P (.done f)):P x:=by
 cases x with
 |done g=>cases h;exact k
 |again c=>exact no h
noncomputable def KY (run:Code→Shared→Option (PySem.Fin×Shared)) (q:PySem.Fin×Shared):Option (Flow×Shared):=match q.1 with
 |.done f=>some (f,q.2)
 |.again c=>if zf c=true then (run c q.2).bind fun q=>(doneF q.1).map fun f=>(f,q.2) else none
noncomputable def cf (den:Code→Sem PySem.Fin) (p:Program) (w:World):Nat→(α:Type)→Sem α→Shared→Option (α×Shared)
 |0,_,_,_=>none
 |n+1,α,m,s=>match m with
  |.pure a=>some (a,s)
  |.rule _ k=>cf den p w n α (k ()) s
  |.load a _ k=>(s.heap.get? a).bind fun o=>cf den p w n α (k o) s
  |.ask k=>cf den p w n α (k ⟨p,w.params⟩) s
  |.point _ k=>cf den p w n α (k ()) s
  |.fresh k=>cf den p w n α (k s.toks) {s with toks:=s.toks+1}
  |.call c _ _ _ k=>(cf den p w n PySem.Fin (den c) s).bind fun q=>(KY (fun c s=>cf den p w n PySem.Fin (den c) s) q).bind fun f=>cf den p w n α (k (.ok f.1)) f.2
  |_=>none
noncomputable def cost:Nat→Nat
 |0=>0
 |n+1=>3*cost n+4
section
variable {p:Program} {w:World} {den:Code→Sem PySem.Fin}
theorem iN:∀{n:Nat} {α:Type} {m:Sem α} {s s':Shared} {a:α},cf den p w n α m s=some (a,s')→CF den p w α n m s a s'
 |0,_,_,_,_,_,h=>no h
 |n+1,α,m,s,s',a,h=>by
  cases m
  case pure x=>exact os (P:=fun q:α×Shared=>CF den p w α (n+1) (.pure x) s q.1 q.2) h .pure
  case rule=>exact .rule (iN h)
  case load=>exact ob h fun o e h=>.load e (iN h)
  case ask=>exact .ask (iN h)
  case point=>exact .point (iN h)
  case fresh=>exact .fresh (iN h)
  case call c hd g l k=>
   refine ob h fun q e h'=>ob h' fun f e2 h=>?_;clear h';obtain ⟨x,s₁⟩:=q;cases x with
   |done f'=>exact os (P:=fun f:Flow×Shared=>cf den p w n α (k (.ok f.1)) f.2=some (a,s')→CF den p w α (n+1) (.call c hd g l k) s a s') e2 (fun h=>.call (iN e) (iN h)) h
   |again c'=> refine oi e2 fun q e2=>ob e2 fun q' e' e2=>om (P:=fun f:Flow×Shared=>cf den p w n α (k (.ok f.1)) f.2=some (a,s')→CF den p w α (n+1) (.call c hd g l k) s a s') e2 (fun f e2 h=>?_) h;exact DA (P:=fun x=>CF den p w PySem.Fin n (den c') s₁ x q'.2→CF den p w α (n+1) (.call c hd g l k) s a s') e2 (fun e'=>.call2 (iN e) q e' (iN h)) (iN e')
  all_goals exact no h
theorem kr {k n:Nat} {m:Sem α} {a:α} (h:CF den p w α n m s a s'):CF den p w α (k+n) m s a s':=by
 induction h with
 |pure=>exact .pure
 |rule _ ih=>exact .rule ih
 |load e _ ih=>exact .load e ih
 |update h1 h2 _ ih=>exact .update h1 h2 ih
 |alloc _ ih=>exact .alloc ih
 |ask _ ih=>exact .ask ih
 |point _ ih=>exact .point ih
 |fresh _ ih=>exact .fresh ih
 |call _ _ i1 i2=>exact .call i1 i2
 |call2 _ q _ _ i1 i2 i3=>exact .call2 i1 q i2 i3
theorem zg {n k:Nat} {m:Sem α} {f:α→Sem β} {a:α} {b:β} {s'':Shared} (h:CF den p w α n m s a s') (hk:CF den p w β k (f a) s' b s''):CF den p w β (k+n) (m.bind f) s b s'':=by
 induction h with
 |pure=>rw [Nat.add_comm];exact kr hk
 |rule _ ih=>exact .rule (ih hk)
 |load e _ ih=>exact .load e (ih hk)
 |update h1 h2 _ ih=>exact .update h1 h2 (ih hk)
 |alloc _ ih=>exact .alloc (ih hk)
 |ask _ ih=>exact .ask (ih hk)
 |point _ ih=>exact .point (ih hk)
 |fresh _ ih=>exact .fresh (ih hk)
 |call e _ _ ih=>exact .call (kr e) (ih hk)
 |call2 e q e' _ _ _ ih=>exact .call2 (kr e) q (kr e') (ih hk)
theorem Ga {n:Nat} {m:Sem α} {a:α} (h:CF den p w α n m s a s'):CF den p w α n (m.keep vs) s a s':=by
 induction h with
 |pure=>exact .pure
 |rule _ ih=>exact .rule ih
 |load e _ ih=>exact .load e ih
 |update h1 h2 _ ih=>exact .update h1 h2 ih
 |alloc _ ih=>exact .alloc ih
 |ask _ ih=>exact .ask ih
 |point _ ih=>exact .point ih
 |fresh _ ih=>exact .fresh ih
 |call e _ _ i=>exact .call e i
 |call2 e q e' _ _ _ i=>exact .call2 e q e' i
theorem xQ {n:Nat} {m:Sem α} {a:α} (h:CF den p w α n m s a s'):CF den p w α n (holding vs m) s a s':=by
 unfold holding;split
 ·exact h
 ·exact Ga h
end
section
variable {p:Program} {w:World}
theorem DB {c' c:Code} {fr:List Frame} (hq:zf c'=true):stepOk 11 aJ ⟨.pure (.again c'),c,pos,fr⟩=true:=by
 cases c'
 case builtin id args=>
  have hq:(!(id.startsWith "lifetime."))=true:=hq;have:((!(id.startsWith "lifetime.")||Thread.atExit ⟨.pure (.again (.builtin id args)),c,pos,fr⟩)&&!false&&true)=true:=by rw [hq];rfl
  exact Bool.and_eq_true_iff.mpr ⟨this,rfl⟩
 all_goals rfl
theorem xR {c c':Code} {k:Result→Sem PySem.Fin} {hd:Option Value} {g:Bool} {l:List Value} {kp:List Value}:∃kept,PySem.step (denote treeTable) p w s ⟨.pure (.again c'),c,pos,.ret k hd g l code pos kp::stack⟩=.go s ⟨denote treeTable c',c',pos,.ret k hd g l code pos kept::stack⟩:=by
 obtain ⟨_,_,_,_,_⟩:=s;cases c
 case builtin=>cases c' <;>exact ⟨_,rfl⟩
 case call=>cases c' <;>exact ⟨_,rfl⟩
 all_goals exact ⟨_,rfl⟩
theorem vn {k:Result→Sem PySem.Fin} {f:Flow} {c:Code} {hd:Option Value} {g:Bool} {l kp:List Value}:Reach p w 1 s ⟨.pure (.done f),c,pos,.ret k hd g l code pos kp::stack⟩ s ⟨k (.ok f),code,pos,stack⟩:=by obtain ⟨_,_,_,_,_⟩:=s;exact Reach.step rfl rfl
theorem fG {n:Nat}:1+cost n≤cost (n+1):=by show _≤3*cost n+4;exact VB
theorem xS {n:Nat} {m:Sem PySem.Fin} {f:PySem.Fin} (h:∀{K:PySem.Fin→Sem PySem.Fin} {code:Code} {pos:Pos} {stack:List Frame},Reach p w n s ⟨m.bind K,code,pos,stack⟩ s₁ ⟨K f,code,pos,stack⟩):Reach p w n s ⟨m,code,pos,stack⟩ s₁ ⟨.pure f,code,pos,stack⟩:=by
 have:=h (K:=Sem.pure) (code:=code) (pos:=pos) (stack:=stack)
 rwa [show m.bind Sem.pure=m from bind_pure m] at this
theorem DC {n:Nat} {m:Sem α} {a:α} (h:CF (denote treeTable) p w α n m s a s'):∀{K:α→Sem PySem.Fin} {code:Code} {pos:Pos} {stack:List Frame},Reach p w (cost n) s ⟨m.bind K,code,pos,stack⟩ s' ⟨K a,code,pos,stack⟩:=by
 induction h with
 |pure=>exact Reach.refl.mono (Nat.zero_le _)
 |rule _ ih=>rename_i s _;cases s;exact .mono (.trans (.step rfl rfl) ih) fG
 |load e _ ih=> rename_i s _;cases s;refine .mono (.trans (.step rfl ?_) ih) fG;simp only [Sem.bind,PySem.step,e]
 |update h1 h2 _ ih=>
  rename_i s _;cases s;refine .mono (.trans (.step ?_ ?_) ih) fG
  ·have:Nat.ble 11 _=true:=Nat.ble_eq.mpr h1;simp only [Sem.bind,stepOk,this,Bool.true_or,Bool.and_true];rfl
  ·simp only [Sem.bind,PySem.step,h2,if_true]
 |alloc _ ih=>rename_i s _;cases s;exact .mono (.trans (.step rfl rfl) ih) fG
 |ask _ ih=>rename_i s _;cases s;exact .mono (.trans (.step rfl rfl) ih) fG
 |point _ ih=>rename_i s _;cases s;exact .mono (.trans (.step rfl rfl) ih) fG
 |fresh _ ih=>rename_i s _;cases s;exact .mono (.trans (.step rfl rfl) ih) fG
 |call _ _ i1 i2=> intro K code pos stack;rename_i n c hd g l k f a s s₁ s' _ _;cases s;exact Reach.mono (n:=1+(cost n+(1+cost n))) (.trans (.step rfl rfl) (.trans (xS i1) (.trans vn i2))) (by show _≤3*cost n+4;exact VC)
 |call2 _ q _ _ i1 i2 i3=> intro K code pos stack;rename_i n c c' hd g l k f a s s₁ s₂ s' _ _ _;cases s;refine Reach.mono (n:=1+(cost n+(1+(cost n+(1+cost n))))) (.trans (.step rfl rfl) (.trans (xS i1) ?_)) (by show _≤3*cost n+4;exact VD);obtain ⟨kept,e3⟩:=xR (p:=p) (w:=w) (c:=c) (c':=c') (k:=fun r=>(k r).bind K) (hd:=hd) (g:=g) (l:=l) (code:=code) (pos:=pos) (stack:=stack) (s:=s₁) (kp:=_);exact .trans (.step (DB q) e3) (.trans (xS i2) (.trans vn i3))
noncomputable def bF (p:Program) (w:World) {α:Type} (n:Nat) (m:Sem α) (Q:α→Shared→Prop) (s:Shared):Prop:=∃a s',CF (denote treeTable) p w α n m s a s'∧Q a s'
variable {α β:Type} {n n2:Nat} {s:Shared}
theorem dM {m:Sem α} {Q:α→Shared→Prop} {P:Prop} (h:bF p w n m Q s) (k:∀a s',CF (denote treeTable) p w α n m s a s'→Q a s'→P):P:=h.elim fun a h=>h.elim fun s' h=>k a s' h.1 h.2
theorem gi {a:α} {Q:α→Shared→Prop} (h:Q a s):bF p w n (pure a) Q s:=⟨a,s,.pure,h⟩
theorem bD {m:Sem α} {Q:α→Shared→Prop} (h:bF p w n m Q s) (hn:n≤n2):bF p w n2 m Q s:=dM h fun a s' e q=>⟨a,s',Nat.sub_add_cancel hn▸kr e,q⟩
theorem oJ {m:Sem α} {f:α→Sem β} {Q:β→Shared→Prop} (h:bF p w n m (fun a s'=>bF p w n2 (f a) Q s') s):bF p w (n+n2) (m>>=f) Q s:= dM h fun _ _ e h=>dM h fun b s'' e' q=>⟨b,s'',Nat.add_comm .. ▸zg e e',q⟩
theorem iO {m:Sem α} {Q:α→Shared→Prop} (h:bF p w n m Q s):bF p w n (holding vs m) Q s:=dM h fun a s' e q=>⟨a,s',xQ e,q⟩
theorem aX {a:α} {f:α→Sem β} {Q:β→Shared→Prop} (h:bF p w n (f a) Q s):bF p w n (pure a>>=f) Q s:=h
theorem iP {tag:String} {f:Unit→Sem β} {Q:β→Shared→Prop} (h:bF p w n (f ()) Q s):bF p w (n+1) (rule tag>>=f) Q s:=dM h fun a s' e q=>⟨a,s',.rule e,q⟩
theorem mT {f:Setting→Sem β} {Q:β→Shared→Prop} (h:bF p w n (f ⟨p,w.params⟩) Q s):bF p w (n+1) (ask>>=f) Q s:=dM h fun a s' e q=>⟨a,s',.ask e,q⟩
theorem AE {f:Unit→Sem β} {Q:β→Shared→Prop} (h:bF p w n (f ()) Q s):bF p w (n+1) (point>>=f) Q s:=dM h fun a s' e q=>⟨a,s',.point e,q⟩
theorem AF {f:Addr→Sem β} {Q:β→Shared→Prop} (h:bF p w n (f s.heap.objs.size) Q {s with heap:=s.heap.push o}):bF p w (n+1) (alloc o>>=f) Q s:=dM h fun a s' e q=>⟨a,s',.alloc e,q⟩
theorem vq {f:Obj→Sem β} {Q:β→Shared→Prop} (ho:s.heap.get? a=some o) (h:bF p w n (f o) Q s):bF p w (n+1) (load a>>=f) Q s:= dM h fun x s' e q=>⟨x,s',.load ho e,q⟩
theorem AG {y:Option Value} {f:Obj→Sem β} {Q:β→Shared→Prop} (ho:s.heap.get? a=some o) (h:bF p w n (f o) Q s):bF p w (n+1) (loadPart a y>>=f) Q s:= dM h fun x s' e q=>⟨x,s',.load ho e,q⟩
theorem xT {g:Obj→Obj} {f:Unit→Sem β} {Q:β→Shared→Prop} (ha:11≤a) (ho:s.heap.get? a=some o) (h:bF p w n (f ()) Q {s with heap:=s.heap.update a g}):bF p w (n+1) (update a g>>=f) Q s:= dM h fun x s' e q=>⟨x,s',.update ha (by rw [ho];rfl) e,q⟩
theorem vz {m:Sem α} {Q:α→Shared→Prop} (h:bF p w n (m>>=pure) Q s):bF p w n m Q s:=by
 have e:m>>=pure=m:=bind_pure m
 rwa [e] at h
theorem aj {γ:Type} {m:Sem α} {f:α→Sem β} {g:β→Sem γ} {Q:γ→Shared→Prop} (h:bF p w n (m>>=fun a=>f a>>=g) Q s):bF p w n ((m>>=f)>>=g) Q s:=by rwa [bind_assoc]
theorem lz {m:Sem α} {Q:α→Shared→Prop} (h:bF p w n m Q s):∃a s',Q a s'∧∀(K:α→Sem PySem.Fin) (code:Code) (pos:Pos) (stack:List Frame),Reach p w (cost n) s ⟨m>>=K,code,pos,stack⟩ s' ⟨K a,code,pos,stack⟩:= dM h fun a s' e q=>⟨a,s',q,fun _ _ _ _=>DC e⟩
end
end
noncomputable def fS:Nat→Nat×Nat→Nat×Nat
 |0,x=>x
 |n+1,x=>fS n (SetTable.leap 127 x.1 x.2)
theorem qJ:∀(a b:Nat) (x:Nat×Nat),fS (a+b) x=fS b (fS a x)
 |0,b,x=>by rw [Nat.zero_add];rfl
 |a+1,b,x=>by rw [show a+1+b=(a+b)+1 by exact VX];exact qJ a b _
noncomputable def lf (x:Nat):Nat:=(x*5+1)%128
noncomputable def U7:Nat→Nat→Nat
 |0,x=>x
 |n+1,x=>U7 n (lf x)
theorem oK:∀(n x:Nat),fS n (x,0)=(U7 n x,0)
 |0,_=>rfl
 |n+1,x=>by
  have:SetTable.leap 127 x 0=(lf x,0):=by simp [SetTable.leap,lf]
  show fS n (SetTable.leap 127 x 0)=_;rw [this,oK n];rfl
theorem ju:∀(n:Nat) (x:Nat×Nat),(fS n x).2=x.2/32^n
 |0,x=>by simp [fS]
 |n+1,x=>by show (fS n (SetTable.leap 127 x.1 x.2)).2=_;rw [ju n,Nat.pow_succ,Nat.mul_comm,←Nat.div_div_eq_div_mul];rfl
theorem vA:∀(n:Nat) (x:Nat×Nat),x.1<128→(fS n x).1<128
 |0,_,h=>h
 |n+1,x,_=>vA n _ (Nat.mod_lt _ (by decide))
noncomputable def S2:Nat→Nat→Nat
 |0,_=>0
 |n+1,x=>Nat.lor (2^x) (S2 n (lf x))
theorem Gb:∀x,x<128→S2 128 x=2^128-1:=by decide+kernel
theorem zh:∀(n x y:Nat),(S2 n x).testBit y=true→∃j,j<n∧U7 j x=y
 |0,x,y,h=>by simp [S2] at h
 |n+1,x,y,h=>by
  have h:((2^x) ||| (S2 n (lf x))).testBit y=true:=h;rw [Nat.testBit_or,Bool.or_eq_true] at h;rcases h with h|h
  ·rw [Nat.testBit_two_pow] at h;exact ⟨0,by exact tR,of_decide_eq_true h⟩
  ·obtain ⟨j,hj,e⟩:=zh n _ y h;exact ⟨j+1,by exact VY hj,e⟩
theorem AH (hx:x<128) (hy:y<128):∃j,j<128∧U7 j x=y:=by refine zh 128 x y ?_;rw [Gb x hx,Nat.testBit_two_pow_sub_one];exact decide_eq_true hy
theorem qK {owner:Array (Option Nat)}:∀(fuel:Nat) (x:Nat×Nat),SetTable.layClean.free 127 owner fuel x.1 x.2=none→∀j,j<fuel→(owner.getD (fS j x).1 (some 0)).isNone=false
 |0,_,_,j,hj=>by exact (IC hj).elim
 |fuel+1,x,h,j,hj=>by
  rw [SetTable.layClean.free] at h;split at h
  ·cases h
  ·rename_i hf;cases j with
   |zero=>
    have hr:0<SetTable.runEnd 127 x.1+1-x.1:=by unfold SetTable.runEnd;split <;>omega
    have:=List.find?_eq_none.mp hf 0 (List.mem_range.mpr hr);simp only [Nat.add_zero,Bool.not_eq_true] at this;exact this
   |succ j=>exact qK fuel (SetTable.leap 127 x.1 x.2) h j (zz hj)
theorem qL {owner:Array (Option Nat)}:∀(fuel i p j:Nat),SetTable.layClean.free 127 owner fuel i p=some j→owner[j]?=some none
 |0,_,_,_,h=>by simp [SetTable.layClean.free] at h
 |fuel+1,i,p,j,h=>by
  rw [SetTable.layClean.free] at h;split at h
  ·rename_i k hf;cases h;have:=List.find?_some hf;rw [Array.getD_eq_getD_getElem?] at this;cases e:owner[i+k]? with
   |none=>rw [e] at this;simp at this
   |some o=> rw [e] at this;simp at this;rw [this]
  ·exact qL fuel _ _ j h
theorem Ge (h:Int) (hf:∃y,y<128∧owner[y]?=some none):
  ∃j,owner[j]?=some none∧SetTable.layClean.free 127 owner (SetTable.turns 127) (SetTable.bits h%(127+1)) (SetTable.bits h)=some j:=by
 cases e:SetTable.layClean.free 127 owner (SetTable.turns 127) (SetTable.bits h%(127+1)) (SetTable.bits h) with
 |some j=>exact ⟨j,qL _ _ _ _ e,rfl⟩
 |none=>
  exfalso;obtain ⟨y,hy,hn⟩:=hf;have hx:(fS 13 (SetTable.bits h%128,SetTable.bits h)).1<128:=vA 13 _ (Nat.mod_lt _ (by decide));have hp:(fS 13 (SetTable.bits h%128,SetTable.bits h)).2=0:=by
   rw [ju];refine Nat.div_eq_of_lt ?_;have:SetTable.bits h<2^64:=by unfold SetTable.bits;have:=Int.emod_lt_of_pos h (show (0:Int)<2^64 by decide);have:=Int.emod_nonneg h (show (2^64:Int)≠0 by decide);omega
   exact Nat.lt_trans this (by decide)
  obtain ⟨j,hj,ej⟩:=AH hx hy;have:=qK (SetTable.turns 127) (SetTable.bits h%(127+1),SetTable.bits h) e (13+j) (by unfold SetTable.turns;exact MS hj);rw [qJ] at this;generalize hl:fS 13 (SetTable.bits h%(127+1),SetTable.bits h)=l at this hx hp ej;obtain ⟨l1,l2⟩:=l;simp only at hp ej;subst hp;rw [oK,ej,Array.getD_eq_getD_getElem?,hn] at this;simp at this
theorem vB:∀(l:List (Option Nat)) (j k:Nat),l[j]?=some none→((l.set j (some k)).filterMap id).Perm (k::l.filterMap id)
 |[],j,k,h=>by simp at h
 |x::l,0,k,h=>by simp at h;subst h;simp
 |x::l,j+1,k,h=>by
  have ih:=vB l j k (by simpa using h);cases x with
  |none=>simpa using ih
  |some x=> simp only [List.set_cons_succ,List.filterMap_cons,id];exact (List.Perm.cons x ih).trans (List.Perm.swap _ _ _)
theorem vC:∀(l:List (Option Nat)),(∀j:Nat,l[j]?≠some none)→(l.filterMap id).length=l.length
 |[],_=>rfl
 |x::l,h=>by
  have ih:=vC l fun j=>h (j+1);cases x with
  |none=>exact absurd rfl (h 0)
  |some x=>simpa using ih
theorem AI (hs:owner.size=128) (h:(owner.toList.filterMap id).length<128):∃y,y<128∧owner[y]?=some none:=by
 by_cases q:∃j:Nat,owner.toList[j]?=some none
 ·obtain ⟨j,hj⟩:=q;obtain ⟨hlt,_⟩:=List.getElem?_eq_some_iff.mp hj;exact ⟨j,by simpa [hs] using hlt,by simpa using hj⟩
 ·have:=vC owner.toList fun j e=>q ⟨j,e⟩;rw [this] at h;simp [hs] at h
theorem vD:∀(l:List Int) (owner:Array (Option Nat)) (k:Nat),owner.size=128→(owner.toList.filterMap id).Perm (List.range k)→k+l.length<128→
  ∃o,List.foldlM (fun (acc:Array (Option Nat)×Nat) h=>do
   let j←SetTable.layClean.free 127 acc.1 (SetTable.turns 127) (SetTable.bits h%(127+1)) (SetTable.bits h)
   pure (acc.1.setIfInBounds j (some acc.2),acc.2+1)) (owner,k) l=some (o,k+l.length)∧o.size=128∧(o.toList.filterMap id).Perm (List.range (k+l.length))
 |[],owner,k,hs,hp,_=>⟨owner,by simp,hs,by simpa using hp⟩
 |h::l,owner,k,hs,hp,hl=>by
  have hlen:=hp.length_eq;simp only [List.length_range,List.length_cons] at hlen hl;obtain ⟨j,hj,e⟩:=Ge (owner:=owner) h (AI hs (MQ hl hlen));rw [List.foldlM_cons,e];have XY:((owner.setIfInBounds j (some k)).toList.filterMap id).Perm (List.range (k+1)):=by rw [Array.toList_setIfInBounds,List.range_succ];refine (vB _ _ _ (by simpa using hj)).trans ?_;exact (List.Perm.cons k hp).trans (List.perm_append_singleton k _).symm
  obtain ⟨o,h1,h2,h3⟩:=vD l (owner.setIfInBounds j (some k)) (k+1) (by simp [hs]) XY (MR hl);refine ⟨o,?_,h2,?_⟩
  ·rw [List.length_cons,show k+(l.length+1)=k+1+l.length by exact G0];exact h1
  ·rw [List.length_cons,show k+(l.length+1)=k+1+l.length by exact G0];exact h3
theorem vE {finger moves:Nat} {led plain:Bool} (l:List Int) (hl:l.length<128):
  ∃t order,SetTable.laid 127 finger moves led plain l.toArray=some (t,order)∧t.place.size=l.length∧t.dummies=#[]∧t.mask=127∧order.toList.Perm (List.range l.length):=by
 have h0:∀n:Nat,(List.replicate n (none:Option Nat)).filterMap id=[]:=fun n=>by
  induction n with
  |zero=>rfl
  |succ n ih=>simp
 obtain ⟨o,h1,h2,h3⟩:=vD l (Array.replicate 128 none) 0 (by simp) (by rw [Array.toList_replicate,h0];exact .refl _) (MP hl);have hc:SetTable.layClean 127 l.toArray=some o:=by
  unfold SetTable.layClean;rw [List.foldl_toArray]
  have:=ja (fun (h:Int) (acc:Array (Option Nat)×Nat)=>(do
    let j←SetTable.layClean.free 127 acc.1 (SetTable.turns 127) (SetTable.bits h%(127+1)) (SetTable.bits h)
    pure (acc.1.setIfInBounds j (some acc.2),acc.2+1))) l (some (Array.replicate (127+1) none,0))
  rw [Option.bind_some] at this;rw [h1] at this;exact Eq.trans (congrArg (Option.map (·.1)) this) rfl
 have hlive:(((List.range (127+1)).filterMap fun j=>(o.getD j none).map (j,·)).map (·.2))=o.toList.filterMap id:=by
  rw [List.map_filterMap];have e1:∀j∈List.range (127+1),((o.getD j none).map (j,·)).map (·.2)=(o.toList[j]?).bind id:=fun j hj=>by
   rw [Array.getD_eq_getD_getElem?,←Array.getElem?_toList];cases o.toList[j]? with
   |none=>rfl
   |some x=>cases x <;>rfl
  rw [jH e1];have e2:=List.filterMap_getElem?_range_length o.toList;rw [Array.length_toList,h2] at e2;have e3:=congrArg (List.filterMap id) e2;rw [List.filterMap_filterMap] at e3;exact e3
 have hp:=h3;rw [Nat.zero_add,←hlive] at hp;refine ⟨_,_,by unfold SetTable.laid;rw [hc];rfl,?_,rfl,rfl,?_⟩
 ·have:=hp.length_eq;simpa using this
 ·simpa using hp
section
noncomputable abbrev aq (es:Array (Int×Value)) (ep:Nat) (t:SetTable):Obj:={cls:=.type "frozenset",dict:=none,data:=.set es ep t}
noncomputable def SE (w:World) (l:List (Int×Value)):Prop:=∀e∈l,∃c t,e=(hashStr w (aC [c]),.str (aC [c]) t)
noncomputable def keyOf (e:Int×Value):Nat:=match e.2 with
 |.str s _=>s.cps.toList.headD 0
 |_=>0
structure SS (w:World) (es:Array (Int×Value)) (t:SetTable) (cs:List Nat):Prop where
 el:SE w es.toList
 pm:(es.toList.map keyOf).Perm cs
 ft:t.fits es.size=true
theorem SS.size (q:SS w es t cs):es.size=cs.length:=by have:=q.pm.length_eq;simpa using this
theorem SE.perm {l l':List (Int×Value)} (h:SE w l) (p:l'.Perm l):SE w l':=fun e he=>h e (p.mem_iff.mp he)
theorem SE.key {l:List (Int×Value)} (h:SE w l) {e:Int×Value} (he:e∈l):∃t,e=(hashStr w (aC [keyOf e]),.str (aC [keyOf e]) t):=by obtain ⟨c,t,rfl⟩:=h e he;exact ⟨t,rfl⟩
theorem Gf (f:Obj→Obj) (hg:h.get? a=some o):h.update a f=h.update a (fun _=>f o):=by
 obtain ⟨objs,l⟩:=h;have ho:objs[a]?=some o:=by
  unfold Heap.get? at hg;simp only at hg;split at hg
  ·cases hg
  ·exact hg
 simp only [Heap.update,Heap.mk.injEq,and_true];refine Array.ext (by simp) fun i h1 h2=>?_;simp only [Array.getElem_modify];split
 ·rename_i e;subst e;have hl:a<objs.size:=by simpa using h1
  have:objs[a]?=some objs[a]:=Array.getElem?_eq_getElem hl;rw [ho] at this;cases this;rfl
 ·rfl
theorem tD (h:Heap) (a:Addr) (x y:Obj):(h.update a fun _=>x).update a (fun _=>y)=h.update a fun _=>y:=by obtain ⟨objs,l⟩:=h;simp only [Heap.update,Heap.mk.injEq,and_true];refine Array.ext (by simp) fun i h1 h2=>?_;simp only [Array.getElem_modify];split <;>rfl
theorem zj {o':Obj} (hg:h.get? a=some o) (ho:o'.isFreed=false):(h.update a fun _=>o').get? a=some o':=Heap.get?_update_self (fun _=>o') hg ho
section
variable {p:Program} {w:World} {α β:Type} {n n2:Nat} {s:Shared}
theorem bR {f:(Array (Int×Value)×Nat×SetTable)→Sem β} {Q:β→Shared→Prop} (hg:s.heap.get? a=some (aq es ep t)) (hf:t.fits es.size=true)
  (h:bF p w n (f (es,ep,t)) Q s):bF p w (n+1) (setState a>>=f) Q s:=by
 unfold setState;refine aj (vq hg ?_);dsimp only;have hc:(t.place.size !=es.size||decide (t.fill>t.mask))=false:=by simp only [SetTable.fits,Bool.and_eq_true,beq_iff_eq,decide_eq_true_eq] at hf;simp [hf.1,Nat.not_lt.mpr hf.2]
 rw [hc];exact h
theorem lA {f:Unit→Sem β} {Q:β→Shared→Prop} (ha:11≤a) (hg:s.heap.get? a=some (aq es ep t)) (hz:es'.size≤sizeLine)
  (h:bF p w n (f ()) Q {s with heap:=s.heap.update a fun _=>aq es' (ep+1) t'}):bF p w (n+2) (storeSet a es' t'>>=f) Q s:=by
 unfold storeSet;refine aj (vq hg ?_);dsimp only;rw [if_neg (Nat.not_lt.mpr hz)];have e:=Gf (Obj.putSet es' t') hg;have e2:Obj.putSet es' t' (aq es ep t)=aq es' (ep+1) t':=rfl;rw [e2] at e;rw [←e] at h;exact xT ha hg h
theorem Im {f:Unit→Sem β} {Q:β→Shared→Prop} (h:bF p w n (f ()) Q s):bF p w (n+1) ((match b with|true=>rule "set.scan.the-table-gave-way"|false=>pure ())>>=f) Q s:=by
 cases b
 ·exact bD h (by exact G2)
 ·exact iP h
theorem SS.exact (q:SS w es t cs):es.all (fun e=>isExactStrKey e.2)=true:=by rw [←Array.all_toList,List.all_eq_true];intro e he;obtain ⟨tk,e'⟩:=q.el.key he;rw [e'];rfl
theorem SS.scan (q:SS w es t cs) (hl:cs.length<100):byScan (.str (aC [c]) tk) es=true:=by
 simp only [byScan,Bool.and_eq_true,decide_eq_true_eq];refine ⟨⟨rfl,?_⟩,?_⟩
 ·rw [q.size];have:scanBound=4096:=rfl;omega
 ·rw [←Array.all_toList,List.all_eq_true];intro e he;obtain ⟨tk,e'⟩:=q.el.key he;rw [e'];rfl
theorem lB {e:Int×Value} {l:List (Int×Value)} (h:SE w l) (he:e∈l) (c:Nat):e.2.isStr (aC [c])=decide (keyOf e=c):=by
 obtain ⟨tk,e'⟩:=h.key he;rw [e'];show decide (aC [keyOf e]=aC [c])=decide (keyOf e=c);rw [decide_eq_decide];constructor
 ·intro q;have q:=congrArg (fun s:Str=>s.cps.toList) q;simpa using q
 ·rintro rfl;rfl
theorem SS.absent (q:SS w es t cs) (hc:c∉cs):es.findIdx? (·.2.isStr (aC [c]))=none:=by
 have:es.toList.findIdx? (·.2.isStr (aC [c]))=none:=by rw [List.findIdx?_eq_none_iff];intro e he;rw [lB q.el he];refine decide_eq_false fun e2=>hc (q.pm.mem_iff.mp (List.mem_map.mpr ⟨e,he,e2⟩))
 cases es;simpa using this
theorem sizeOk {k:Nat} (h:es.size=k) (hk:k<1000):es.size≤sizeLine:=by rw [h,av];exact G3 hk
theorem S3 {f:Bool→Sem β} {Q:β→Shared→Prop} (ha:11≤a) (hg:s.heap.get? a=some (aq es ep t)) (q:SS w es t cs) (hl:cs.length<90) (hc:c∉cs)
  (h:∀es' fj t',SS w es' t' (cs++[c])→bF p w n (f true) Q {s with heap:=s.heap.update a fun _=>aq es' fj t'}):
  bF p w (n+10) (setAddHashed a (.str (aC [c]) tk) (hashStr w (aC [c]))>>=f) Q s:=by
 unfold setAddHashed;have key:bF p w (n+10) (setAddHashedIn a (.str (aC [c]) tk) (hashStr w (aC [c])) 100000>>=f) Q s:=by
  unfold setAddHashedIn;refine aj (bR hg q.ft ?_);dsimp only;rw [q.scan (by exact A2 hl)];simp only [↓reduceIte];unfold setAddByScan;refine aj ?_;refine aj ?_;refine iP ?_;unfold setScan;dsimp only;rw [if_pos q.exact];unfold setScanStrs;rw [q.absent hc];dsimp only;refine aj (aX ?_);dsimp only;have lW:=layNew_perm t es (hashStr w (aC [c])) (.str (aC [c]) tk);have zk:=layNew_fits t es (hashStr w (aC [c])) (.str (aC [c]) tk);generalize layNew t es (hashStr w (aC [c])) (.str (aC [c]) tk)=L at lW zk⊢;obtain ⟨es1,t1,wd,gave⟩:=L;dsimp only at lW zk⊢;rw [Array.toList_push] at lW;have q1:SE w es1.toList:=fun e he=>by
   rcases List.mem_append.mp (lW.mem_iff.mp he) with z|z
   ·exact q.el e z
   ·rw [List.mem_singleton.mp z];exact ⟨c,tk,rfl⟩
  have p1:(es1.toList.map keyOf).Perm (cs++[c]):=by refine (lW.map keyOf).trans ?_;rw [List.map_append];exact q.pm.append_right _
  have z1:es1.size=cs.length+1:=by have:=p1.length_eq;simpa using this
  refine aj (Im ?_)
  have tail:∀t2:SetTable,t2.fits es1.size=true→bF p w (n+5) ((do
    storeSet a es1 t2
    if (!wd&&t2.tooFull)=true then do
      (match (relayAll t2 es1 (SetTable.grown es1.size)).2.2 with|true=>rule "set.scan.the-table-gave-way"|false=>pure ())
      storeSet a (relayAll t2 es1 (SetTable.grown es1.size)).1 (relayAll t2 es1 (SetTable.grown es1.size)).2.1
      pure (some true)
     else pure (some true))>>=fun r=>(match r with|some added=>pure added|none=>setAddHashedIn a (.str (aC [c]) tk) (hashStr w (aC [c])) 99999)>>=f) Q s:=fun t2 hf2=>by
   refine aj (lA ha hg (sizeOk z1 (G4 hl)) ?_);have S4:(s.heap.update a fun _=>aq es1 (ep+1) t2).get? a=some (aq es1 (ep+1) t2):=zj hg rfl
   by_cases hb:(!wd&&t2.tooFull)=true
   ·rw [if_pos hb];have hp:=relayAll_perm t2 es1 (SetTable.grown es1.size);have hfr:=relayAll_fits t2 es1 (SetTable.grown es1.size);generalize relayAll t2 es1 (SetTable.grown es1.size)=Rl at hp hfr⊢;obtain ⟨bg,t3,aat⟩:=Rl;dsimp only at hp hfr⊢;have z2:bg.size=cs.length+1:=by
     have:=hp.length_eq;simp only [Array.length_toList] at this;exact Nc z1 this
    refine aj (Im ?_);refine aj (lA (s:={s with heap:=s.heap.update a fun _=>aq es1 (ep+1) t2}) ha S4 (sizeOk z2 (G4 hl)) ?_);dsimp only;rw [tD];exact h bg _ t3 ⟨q1.perm hp,(hp.map _).trans p1,hfr⟩
   ·rw [if_neg hb];exact bD (h es1 _ t2 ⟨q1,p1,hf2⟩) (by exact G5)
  by_cases hpl:t1.plain=true
  ·rw [if_pos hpl];have:=tail {t1 with plain:=false} (SetTable.fits_plain_off zk);exact bD this (by exact G6)
  ·rw [if_neg hpl];have:=tail t1 zk;exact bD this (by exact G6)
 unfold holding;split
 ·exact key
 ·rename_i hh;simp at hh
end
end
section
theorem ku:isSubtype (.type "frozenset") (.type "set")=pure false:=by rw [isSubtype_type];kernel_rfl
theorem pQ:isSubtype (.type "frozenset") (.type "frozenset")=pure true:=by rw [isSubtype_type];kernel_rfl
theorem jK:entryFor table "frozenset.__or__"=some Builtin.«frozenset.__or__»:=entryFor_of_tree (by kernel_rfl)
theorem jj:entryFor table "frozenset.__sub__"=some Builtin.«frozenset.__sub__»:=entryFor_of_tree (by kernel_rfl)
section
variable {p:Program} {w:World} {α β:Type} {n n2:Nat} {s:Shared}
theorem tE {T:String} {f:Bool→Sem β} {Q:β→Shared→Prop} (hg:s.heap.get? a=some o) (hc:o.cls=.type "frozenset") (hs:isSubtype (.type "frozenset") (.type T)=pure b) (h:bF p w n (f b) Q s):
  bF p w (n+1) (isInstance (.ref a) (.type T)>>=f) Q s:=by
 unfold isInstance typeOf;refine aj (aj (AG hg ?_));rw [hc];refine aX ?_;rw [hs];exact aX h
theorem jL {f:Bool→Sem β} {Q:β→Shared→Prop} (hg:s.heap.get? a=some o) (hc:o.cls=.type "frozenset") (h:bF p w n (f true) Q s):
  bF p w (n+2) (Builtin.Frozenset.isAnySet (.ref a)>>=f) Q s:=by
 unfold Builtin.Frozenset.isAnySet;refine aj (tE hg hc ku ?_);exact tE hg hc pQ h
theorem S5 {f:Value→Sem β} {Q:β→Shared→Prop} (hg:s.heap.get? a=some o) (hc:o.cls=.type "frozenset") (h:bF p w n (f (.type "frozenset")) Q s):
  bF p w (n+1) (Builtin.Frozenset.baseOf a>>=f) Q s:=by
 unfold Builtin.Frozenset.baseOf;exact aj (tE hg hc ku h)
theorem X9 {f:Value→Sem β} {Q:β→Shared→Prop} (h:∀led,bF p w n (f (.ref s.heap.objs.size)) Q {s with heap:=s.heap.push (aq #[] 0 (.fresh 0 0 led))}):
  bF p w (n+2) (newSet (.type "frozenset")>>=f) Q s:=by
 unfold newSet setsByText;refine aj (aj (mT ?_));refine aX ?_;dsimp only;simp only [newObj];exact aj (AF (aX (h _)))
theorem oM (hp:t.place.size=0) (hd:t.dummies=#[]):t.fits 0=true:=by simp [SetTable.fits,SetTable.fill,hp,hd]
theorem DE:∀k,k<64→32≤k→SetTable.sizeAbove (k*2)=128:=by decide+kernel
theorem SS.hashes (q:SS w es t cs):(es.map (·.1)).toList.length=cs.length:=by have:=q.size;simpa using this
theorem KZ {r:Addr} {Gg:Nat} {tr:SetTable} {each:Sem Unit} {f:Unit→Sem β} {Q:β→Shared→Prop} (DF:11≤r) (hne:r≠a) (hr:s.heap.get? r=some (aq er Gg tr)) (her:er.size=0) (hpl:tr.place.size=0) (hdu:tr.dummies=#[]) (hm:tr.mask=7)
  (hg:s.heap.get? a=some (aq es ep t)) (q:SS w es t cs) (hl:32≤cs.length) (hl2:cs.length<40)
  (h:∀es' fj t',SS w es' t' cs→t'.mask=127→t'.dummies=#[]→bF p w n (f ()) Q {s with heap:=s.heap.update r fun _=>aq es' fj t'}):bF p w (n+10) (setMerge r a each>>=f) Q s:=by
 have hz:=q.size;have hft:tr.fits er.size=true:=by rw [her];exact oM hpl hdu
 unfold setMerge;have hb:(r==a)=false:=beq_eq_false_iff_ne.mpr hne;rw [hb];simp only [Bool.false_eq_true,↓reduceIte];refine aj (bR hg q.ft ?_);dsimp only;have he:es.isEmpty=false:=by rw [Array.isEmpty_eq_false_iff];intro e;rw [e] at hz;simp at hz;exact (QD hl hz).elim
 rw [he];simp only [Bool.false_eq_true,↓reduceIte];unfold setRoomFor;refine aj (aj (bR hr hft ?_));dsimp only;have hroom:tr.roomFor es.size=some (cs.length*2):=by unfold SetTable.roomFor;rw [if_pos (by simp only [SetTable.fill,hpl,hdu,hz,hm];simp;exact QE hl),hpl,hz,Nat.zero_add]
 rw [hroom];dsimp only;have DG:=DE cs.length (QF hl2) hl;unfold setRelay;refine aj (bR hr hft ?_);dsimp only;rw [DG];rw [if_neg (by rw [av];decide)];obtain ⟨t1,DH,e1,e2,e3,e4,e5⟩:=vE (finger:=tr.finger) (moves:=tr.movedTo 127) (led:=tr.led) (plain:=tr.plain) [] (by decide);have Yb:er=#[]:=Array.eq_empty_of_size_eq_zero her;subst Yb;have Yc:tr.relaid ((#[]:Array (Int×Value)).map (·.1)) (cs.length*2)=some (t1,DH):=by unfold SetTable.relaid;rw [DG];simpa using e1
 have ho1:DH=#[]:=by have:=e5.length_eq;simp only [List.length_nil,List.range_zero,Array.length_toList] at this;exact Array.eq_empty_of_size_eq_zero this
 subst ho1;rw [Yc];refine aj (aX (a:=((#[]:Array (Int×Value)),t1)) ?_);dsimp only;refine lA DF hr (by decide+kernel) ?_;have S4:(s.heap.update r fun _=>aq #[] (Gg+1) t1).get? r=some (aq #[] (Gg+1) t1):=zj hr rfl;have hga:(s.heap.update r fun _=>aq #[] (Gg+1) t1).get? a=some (aq es ep t):=(Heap.get?_update_ne _ _ _ _ (Ne.symm hne)).trans hg;refine aj (bR (s:={s with heap:=s.heap.update r fun _=>aq #[] (Gg+1) t1}) S4 (oM e2 e3) ?_);dsimp only;have hfill:t1.fill=0:=by simp only [SetTable.fill,e3];simpa using e2
 have hsz:es.size≤sizeLine:=sizeOk hz (QG hl2);unfold SetTable.road;rw [hfill]
 by_cases hc:(t1.mask==t.mask&&t.dummies.isEmpty)=true
 ·rw [hc];simp only [bne_self_eq_false,Bool.false_eq_true,↓reduceIte];refine lA (s:={s with heap:=s.heap.update r fun _=>aq #[] (Gg+1) t1}) DF S4 hsz ?_;dsimp only;rw [tD];obtain ⟨c1,c2⟩:=Bool.and_eq_true_iff.mp hc;exact bD (h es _ _ ⟨q.el,q.pm,q.ft⟩ ((eq_of_beq c1).symm.trans e4) (by simpa using c2)) (by exact HL)
 ·rw [Bool.not_eq_true] at hc;rw [hc];simp only [bne_self_eq_false,Bool.false_eq_true,↓reduceIte];obtain ⟨t2,oN,f1,f2,f3,f4,f5⟩:=vE (finger:=t1.finger) (moves:=t1.moves) (led:=t1.led&&t.led) (plain:=t1.plain&&t.plain) (es.map (·.1)).toList (by rw [q.hashes];exact QH hl2);have hla:SetTable.laid t1.mask t1.finger t1.moves (t1.led&&t.led) (t1.plain&&t.plain) (es.map (·.1))=some (t2,oN):=by
   rw [e4];exact f1
  rw [hla];rw [q.hashes,←hz] at f5;have hp:=oF f5;have hs2:(oN.filterMap (es[·]?)).size=es.size:=by have:=hp.length_eq;rwa [Array.length_toList,Array.length_toList] at this
  show bF p w _ (((if ((oN.filterMap (es[·]?)).size !=es.size)=true then unsupported "internal:set-table-lost-an-element">>=(fun _=>pure (oN.filterMap (es[·]?),t2)) else pure (oN.filterMap (es[·]?),t2))>>=fun x=>storeSet r x.1 x.2)>>=f) Q _;rw [hs2];simp only [bne_self_eq_false,Bool.false_eq_true,↓reduceIte];refine aj (aX ?_);dsimp only;refine lA (s:={s with heap:=s.heap.update r fun _=>aq #[] (Gg+1) t1}) DF S4 (by rw [hs2];exact hsz) ?_;dsimp only;rw [tD];refine bD (h _ _ t2 ⟨q.el.perm hp,(hp.map _).trans q.pm,?_⟩ f4 f3) (by exact HL);have fm:t2.fits es.size=true:=by simp only [SetTable.fits,SetTable.fill,f2,f3,f4,q.hashes,hz];simp;exact QI hl2
  rw [hs2];exact fm
end
end
section
theorem oO (h:Heap) (o o':Obj):(h.push o).update h.objs.size (fun _=>o')=h.push o':=by
 obtain ⟨objs,l⟩:=h;simp only [Heap.push,Heap.update,Heap.mk.injEq,and_true];refine Array.ext (by simp) fun i h1 h2=>?_;simp only [Array.getElem_modify,Array.getElem_push];split
 ·rename_i e;subst e;simp
 ·rename_i e;have:i<objs.size:=by simp at h1;exact NW e h1
  simp [this]
section
variable {p:Program} {w:World} {α β:Type} {n n2:Nat} {s:Shared}
theorem Io {f:Value→Sem β} {Q:β→Shared→Prop} (oQ:11≤s.heap.objs.size)
  (hg:s.heap.get? a=some (aq es ep t)) (q:SS w es t cs) (hl:32≤cs.length) (hl2:cs.length<40)
  (h:∀es' fj t',SS w es' t' cs→t'.mask=127→t'.dummies=#[]→bF p w n (f (.ref s.heap.objs.size)) Q {s with heap:=s.heap.push (aq es' fj t')}):bF p w (n+13) (Builtin.Frozenset.copyOf a>>=f) Q s:=by
 unfold Builtin.Frozenset.copyOf;refine aj (S5 hg rfl ?_);refine aj (X9 fun led=>?_);refine aj (?_:bF p w _ ((pure s.heap.objs.size:Sem Addr)>>=_) Q _);refine aX ?_;refine aj (KZ (s:={s with heap:=s.heap.push (aq #[] 0 (.fresh 0 0 led))}) oQ (Nat.ne_of_gt (bx hg)) (Heap.get?_push_size _ rfl) rfl rfl rfl rfl (Heap.get?_push_of_some _ hg) q hl hl2 fun es' fj t' q' m' d'=>?_);dsimp only;rw [oO];exact h es' fj t' q' m' d'
theorem SS.single (q:SS w es t [c]):∃tk,es.toList=[(hashStr w (aC [c]),.str (aC [c]) tk)]:=by have hm:es.toList.map keyOf=[c]:=List.perm_singleton.mp q.pm;obtain ⟨e,he,e2⟩:=List.map_eq_singleton_iff.mp hm;obtain ⟨tk,e3⟩:=q.el.key (e:=e) (by rw [he];simp);refine ⟨tk,?_⟩;rw [he,←e2,←e3]
theorem oR {f:Nat→Sem β} {Q:β→Shared→Prop} (hg:s.heap.get? a=some (aq es ep t)) (hf:t.fits es.size=true)
  (h:bF p w n (f ep) Q s):bF p w (n+1) (setEpoch a>>=f) Q s:=by
 unfold setEpoch;exact aj (bR hg hf h)
theorem Ip {id:String} {f:Unit→Sem β} {Q:β→Shared→Prop} (hg:s.heap.get? a=some (aq es ep t)) (hf:t.fits es.size=true)
  (h:bF p w n (f ()) Q s):bF p w (n+1) (Builtin.Frozenset.unchanged id a ep>>=f) Q s:=by
 unfold Builtin.Frozenset.unchanged;refine aj (oR hg hf ?_);simp only [bne_self_eq_false,Bool.false_eq_true,↓reduceIte];exact h
theorem S6 {f:Array (Int×Value)→Sem β} {Q:β→Shared→Prop} (hg:s.heap.get? a=some (aq es ep t)) (q:SS w es t [c])
  (h:∀es',es'.toList=es.toList→bF p w n (f es') Q s):bF p w (n+3) (setWalk a>>=f) Q s:=by
 have hz:es.size=1:=q.size;obtain ⟨tk,e1⟩:=q.single;unfold setWalk;refine aj (bR hg q.ft ?_);dsimp only;unfold setsByText;refine aj (aj (mT ?_));refine aX ?_
 by_cases hb:w.params.followText "set-order"=true
 ·dsimp only;rw [if_pos hb];refine aj (mT ?_);refine h _ ?_;have:=qE (w.params.setOrder a ep) es;rw [e1] at this⊢;exact List.perm_singleton.mp this
 ·dsimp only;rw [if_neg hb];have hd:(!t.plain&&decide (es.size>1))=false:=by rw [hz];simp
  show bF p w _ ((if (!t.plain&&decide (es.size>1))=true then _ else _)>>=f) Q s;rw [hd];simp only [Bool.false_eq_true,↓reduceIte];have hm:(!t.led&&decide (es.size>1))=false:=by rw [hz];simp
  show bF p w _ (((if (!t.led&&decide (es.size>1))=true then unsupported "set:maker-not-led" else pure ())>>=fun _=>pure es)>>=f) Q s;rw [hm];exact bD (h es rfl) (by exact G2)
theorem zl {rs:List Addr} {fl:Option Addr} {f:Array (Int×Value)→Sem β} {Q:β→Shared→Prop} (hg:s.heap.get? a=some (aq es ep t)) (q:SS w es t [c])
  (h:∀es',es'.toList=es.toList→bF p w n (f es') Q s):bF p w (n+5) (setWalkUnseen a rs fl>>=f) Q s:=by
 have hz:es.size=1:=q.size;unfold setWalkUnseen;refine aj (bR hg q.ft ?_);dsimp only;unfold setsByText;refine aj (aj (mT ?_));refine aX ?_;dsimp only;have hc:(w.params.followText "set-order"||(t.led&&t.plain)||decide (es.size≤1))=true:=by rw [hz];simp
 rw [hc];simp only [↓reduceIte];exact S6 hg q h
theorem Gh {r:Addr} {Gg:Nat} {tr:SetTable} {id:String} {f:Unit→Sem β} {Q:β→Shared→Prop} (DF:11≤r) (hne:r≠a) (hr:s.heap.get? r=some (aq er Gg tr)) (qr:SS w er tr cs) (hm:tr.mask=127) (hd:tr.dummies=#[])
  (hl:32≤cs.length) (hl2:cs.length<40) (hg:s.heap.get? a=some (aq es ep t)) (q:SS w es t [c]) (hc:c∉cs)
  (h:∀es' fj t',SS w es' t' (cs++[c])→bF p w n (f ()) Q {s with heap:=s.heap.update r fun _=>aq es' fj t'}):bF p w (n+25) (setMerge r a (Builtin.Frozenset.unchanged id a ep)>>=f) Q s:=by
 have hz:=qr.size;have hpl:tr.place.size=cs.length:=by have:=qr.ft;simp only [SetTable.fits,Bool.and_eq_true,beq_iff_eq] at this;rw [this.1,hz]
 unfold setMerge;have hb:(r==a)=false:=beq_eq_false_iff_ne.mpr hne;rw [hb];simp only [Bool.false_eq_true,↓reduceIte];refine aj (bR hg q.ft ?_);dsimp only;have hes:es.size=1:=q.size;have he:es.isEmpty=false:=by rw [Array.isEmpty_eq_false_iff];intro e;rw [e] at hes;simp at hes
 rw [he];simp only [Bool.false_eq_true,↓reduceIte];unfold setRoomFor;refine aj (aj (bR hr qr.ft ?_));dsimp only;have hroom:tr.roomFor es.size=none:=by unfold SetTable.roomFor;rw [if_neg];simp only [SetTable.fill,hpl,hd,hes,hm];simp;exact NX hl2
 rw [hroom];dsimp only;refine aX ?_;refine aj (bR hr qr.ft ?_);dsimp only;have hroad:tr.road t=.oneByOne:=by unfold SetTable.road;rw [if_pos];simp only [SetTable.fill,hpl,hd,bne_iff_ne,ne_eq];simp;intro q;rw [q] at hl;simp at hl
 rw [hroad];dsimp only;refine aj (zl hg q fun es' e'=>?_);obtain ⟨tk,e1⟩:=q.single;rw [←Array.forIn_toList,e',e1,List.forIn_cons];simp only [bind_assoc];unfold holding;simp only [List.filter_cons,List.filter_nil];refine S3 DF hr qr (Hg hl2) hc fun bg bl t2 q2=>?_;have hga:(s.heap.update r fun _=>aq bg bl t2).get? a=some (aq es ep t):=(Heap.get?_update_ne _ _ _ _ (Ne.symm hne)).trans hg;refine Ip (s:={s with heap:=s.heap.update r fun _=>aq bg bl t2}) hga q.ft ?_;refine bR (s:={s with heap:=s.heap.update r fun _=>aq bg bl t2}) hga q.ft ?_;simp only [bne_self_eq_false,Bool.false_eq_true,↓reduceIte,pure_bind,List.forIn_nil];exact bD (h bg bl t2 q2) (by exact NY)
end
end
section
theorem Gi (p:Program) (t u:Tok) (s:Shared):∀w:World,cf (denote treeTable) p w 40 Value (richCompare .Eq (.str (aC [9]) t) (.str (aC [9]) u)) s=some (.bool true,s):=by rw [Fast.te11892475500146522536,Fast.te14364793385576792824,Fast.te9423741818375054981];obtain ⟨heap,gens,drawn,toks,os⟩:=s;refine byRow2 "special-get-raises" ?_ ?_ <;>(intro w;kernel_rfl)
section
variable {p:Program} {w:World} {α β:Type} {n n2:Nat} {s:Shared}
theorem DI {m:Sem α} {a:α} {k:Nat} {f:α→Sem β} {Q:β→Shared→Prop} (e:cf (denote treeTable) p w k α m s=some (a,s')) (h:bF p w n (f a) Q s'):bF p w (k+n) (m>>=f) Q s:= dM h fun b s'' e' q=>⟨b,s'',Nat.add_comm .. ▸zg (iN e) e',q⟩
theorem eqC {t u:Tok} {f:Bool→Sem β} {Q:β→Shared→Prop} (h:bF p w n (f true) Q s):bF p w (n+45) (eqBool (.str (aC [9]) t) (.str (aC [9]) u)>>=f) Q s:=by
 unfold eqBool holding;simp only [List.filter_cons,List.filter_nil,Bool.false_eq_true,↓reduceIte]
 by_cases e:((Value.str (aC [9]) t)==Value.str (aC [9]) u)=true
 ·rw [if_pos e];refine bD (n:=n+1) ?_ (by exact Q5);simp only [bind_assoc];exact iP h
 ·rw [if_neg e];refine bD (n:=40+n) ?_ (by exact Q6);simp only [pure_bind,bind_assoc];exact DI (Gi p t u s w) h
theorem DJ {f:Bool→Sem β} {Q:β→Shared→Prop} (ha:11≤a) (hg:s.heap.get? a=some (aq es ep t)) (q:SS w es t cs) (hl:cs.length<90) (hc:9∈cs)
  (hm:t.mask=127) (hd:t.dummies=#[])
  (h:∀es' fj t',SS w es' t' (cs.erase 9)→t'.mask=127→t'.dummies.size≤1→bF p w n (f true) Q {s with heap:=s.heap.update a fun _=>aq es' fj t'}):
  bF p w (n+60) (setDiscardHashed a (.str (aC [9]) tk) (hashStr w (aC [9]))>>=f) Q s:=by
 have hz:=q.size;obtain ⟨i,hi⟩:∃i,es.toList.findIdx? (fun x=>x.2.isStr (aC [9]))=some i:=by
  cases e:es.toList.findIdx? (fun x=>x.2.isStr (aC [9])) with
  |some i=>exact ⟨i,rfl⟩
  |none=> obtain ⟨x,hx,ex⟩:=List.mem_map.mp (q.pm.mem_iff.mpr hc);have:=List.findIdx?_eq_none_iff.mp e x hx;rw [lB q.el hx,ex] at this;simp at this
 obtain ⟨hil,I1,_⟩:=List.findIdx?_eq_some_iff_getElem.mp hi;have S7:i<es.size:=by simpa using hil
 obtain ⟨tk',ek⟩:=q.el.key (List.getElem_mem hil);have e9:keyOf es.toList[i]=9:=by rw [lB q.el (List.getElem_mem hil)] at I1;exact of_decide_eq_true I1
 rw [e9] at ek;have hi':es.findIdx? (fun x=>x.2.isStr (aC [9]))=some i:=by cases es;simpa using hi
 have hei:es[i]?=some (hashStr w (aC [9]),.str (aC [9]) tk'):=by rw [←Array.getElem?_toList,List.getElem?_eq_getElem hil,ek]
 unfold setDiscardHashed;refine aj ?_;unfold setFind setFindIn;refine aj (bR hg q.ft ?_);dsimp only;rw [q.scan (by exact A2 hl)];simp only [↓reduceIte];refine aj (iP ?_);unfold setScan;dsimp only;rw [if_pos q.exact];unfold setScanStrs;rw [hi'];dsimp only;rw [hei];dsimp only;simp only [bind_assoc];refine oR hg q.ft ?_;refine bD (n:=n+5+45) (eqC ?_) (by exact Q7);simp only [Bool.false_and,Bool.false_eq_true,↓reduceIte];simp only [bind_assoc];refine oR hg q.ft ?_;simp only [bne_self_eq_false,Bool.false_eq_true,↓reduceIte,pure_bind,bind_assoc];refine bR hg q.ft ?_;dsimp only;have hz2:(SetTable.eraseAt es i).size=es.size-1:=by have:=congrArg List.length (bO es i);rw [List.length_eraseIdx_of_lt hil] at this;simpa using this
 have pe:=gH es.toList i hil;have pk:((SetTable.eraseAt es i).toList.map keyOf).Perm (cs.erase 9):=by rw [bO];have p1:=(pe.map keyOf).trans q.pm;rw [List.map_cons,e9] at p1;exact (List.cons_perm_iff_perm_erase.mp p1).2
 have se:SE w (SetTable.eraseAt es i).toList:=fun e he=>by rw [bO] at he;exact q.el e (List.mem_of_mem_eraseIdx he)
 refine bD (n:=n+1+2) (lA ha hg (sizeOk hz2 (Q9 hl hz)) (AE ?_)) (by exact Rb);have hpl:t.place.size=es.size:=by have:=q.ft;simp only [SetTable.fits,Bool.and_eq_true,beq_iff_eq] at this;exact this.1
 have hlt:i<t.place.size:=Rc S7 hpl;have ed:t.drop i={t with place:=SetTable.eraseAt t.place i,dummies:=SetTable.insertAt t.dummies (SetTable.below t.dummies t.place[i]) t.place[i]}:=by unfold SetTable.drop;rw [Array.getElem?_eq_getElem hlt]
 refine h _ _ _ ⟨se,pk,by rw [hz2];exact qI q.ft S7⟩ (by rw [ed];exact hm) ?_;rw [ed];have:=(SetTable.insertAt_perm t.dummies (SetTable.below t.dummies t.place[i]) t.place[i]).length_eq;rw [hd] at this⊢;simpa using Nat.le_of_eq this
theorem orC (oQ:11≤s.heap.objs.size) (hla:s.heap.get? la=some (aq es ep t)) (q:SS w es t cs) (hl:32≤cs.length) (hl2:cs.length<40)
  (hlb:s.heap.get? lb=some (aq eb DY tb)) (qb:SS w eb tb [c]) (hne:lb≠la) (hc:c∉cs):
  bF p w 60 (Builtin.«frozenset.__or__» ⟨[.ref la,.ref lb],[]⟩) (fun fin s'=>fin=.done (.ret (.ref s.heap.objs.size))∧∃es' fj t',SS w es' t' (cs++[c])∧s'={s with heap:=s.heap.push (aq es' fj t')}) s:=by
 refine bD (n:=((0+25+1+2)+13)+2+2) ?_ (by decide);refine (?_:bF p w _ ((pure (Value.ref la,Value.ref lb):Sem (Value×Value))>>=_) _ s);refine aX ?_;refine (?_:bF p w _ (((Builtin.Frozenset.isAnySet (.ref la)) <&&>(Builtin.Frozenset.isAnySet (.ref lb)))>>=_) _ s);refine aj (jL hla rfl ?_);refine (?_:bF p w _ ((Builtin.Frozenset.isAnySet (.ref lb))>>=_) _ s);refine jL hlb rfl ?_;simp only [Bool.not_true,Bool.false_eq_true,↓reduceIte];refine (?_:bF p w _ ((pure la:Sem Addr)>>=_) _ s);refine aX ?_;refine aj (Io oQ hla q hl hl2 fun es1 zm t1 q1 m1 d1=>?_);have hb:(Value.ref lb !=Value.ref la)=true:=by simpa using hne
 rw [hb];simp only [↓reduceIte];have Iq:(s.heap.push (aq es1 zm t1)).get? lb=some (aq eb DY tb):=Heap.get?_push_of_some _ hlb;refine aj ?_;refine (?_:bF p w _ ((pure s.heap.objs.size:Sem Addr)>>=_) _ _);refine aX ?_;refine aj ?_;refine oJ (n:=28) (n2:=0) (iO ?_);unfold Builtin.Frozenset.updateFrom;refine jL (s:={s with heap:=s.heap.push (aq es1 zm t1)}) Iq rfl ?_;simp only [↓reduceIte];refine (?_:bF p w _ ((pure lb:Sem Addr)>>=_) _ _);refine aX ?_;unfold Builtin.Frozenset.merge;refine oR (s:={s with heap:=s.heap.push (aq es1 zm t1)}) Iq qb.ft ?_;refine vz (Gh (s:={s with heap:=s.heap.push (aq es1 zm t1)}) oQ (Nat.ne_of_gt (bx hlb)) (Heap.get?_push_size _ rfl) q1 m1 d1 hl hl2 Iq qb hc fun es' fj t' q'=>gi ?_);dsimp only;rw [oO];exact gi ⟨rfl,es',fj,t',q',rfl⟩
theorem oS {f:Addr→Sem β} {Q:β→Shared→Prop} (h:bF p w n (f a) Q s):bF p w n (Builtin.Frozenset.addrOf (.ref a)>>=f) Q s:=h
theorem Yd (oQ:11≤s.heap.objs.size) (hla:s.heap.get? la=some (aq es ep t)) (q:SS w es t cs) (hl:32≤cs.length) (hl2:cs.length<40)
  (hlb:s.heap.get? lb=some (aq eb DY tb)) (qb:SS w eb tb [9]) (hne:lb≠la) (hc:9∈cs):
  bF p w 120 (Builtin.«frozenset.__sub__» ⟨[.ref la,.ref lb],[]⟩) (fun fin s'=>fin=.done (.ret (.ref s.heap.objs.size))∧∃es' fj t',SS w es' t' (cs.erase 9)∧s'={s with heap:=s.heap.push (aq es' fj t')}) s:=by
 refine (?_:bF p w (116+2+2) ((pure (Value.ref la,Value.ref lb):Sem (Value×Value))>>=_) _ s);refine aX ?_;refine (?_:bF p w _ (((Builtin.Frozenset.isAnySet (.ref la)) <&&>(Builtin.Frozenset.isAnySet (.ref lb)))>>=_) _ s);refine aj (jL hla rfl ?_);refine (?_:bF p w _ ((Builtin.Frozenset.isAnySet (.ref lb))>>=_) _ s);refine jL hlb rfl ?_;simp only [Bool.not_true,Bool.false_eq_true,↓reduceIte];refine (?_:bF p w _ ((pure la:Sem Addr)>>=_) _ s);refine aX ?_;unfold Builtin.Frozenset.difference;simp only [bind_assoc];refine jL hlb rfl ?_;simp only [Bool.not_true,Bool.false_eq_true,↓reduceIte,Bool.false_and];simp only [bind_assoc];refine oS ?_;unfold Builtin.Frozenset.sizeOf setEntries;simp only [bind_assoc,pure_bind];refine bR hlb qb.ft ?_;refine bR hla q.ft ?_;have S8:es.size/4>eb.size:=by have h1:=q.size;have h2:eb.size=1:=qb.size;exact Q8 hl h1 h2
 dsimp only;rw [if_pos S8];simp only [bind_assoc];refine iP ?_;refine Io oQ hla q hl hl2 fun es1 zm t1 q1 m1 d1=>?_;have Iq:(s.heap.push (aq es1 zm t1)).get? lb=some (aq eb DY tb):=Heap.get?_push_of_some _ hlb;have hgr:(s.heap.push (aq es1 zm t1)).get? s.heap.objs.size=some (aq es1 zm t1):=Heap.get?_push_size _ rfl;refine oS ?_;refine oJ (n:=98) (n2:=0) (iO ?_);unfold Builtin.Frozenset.differenceUpdate;have hb:(Value.ref lb==Value.ref s.heap.objs.size)=false:=by have:=Nat.ne_of_lt (bx hlb);simpa using this
 rw [hb];simp only [Bool.false_eq_true,↓reduceIte];refine jL (s:={s with heap:=s.heap.push (aq es1 zm t1)}) Iq rfl ?_;simp only [↓reduceIte,bind_assoc];refine oS ?_;unfold Builtin.Frozenset.sizeOf setEntries;simp only [bind_assoc,pure_bind];refine bR (s:={s with heap:=s.heap.push (aq es1 zm t1)}) Iq qb.ft ?_;refine bR (s:={s with heap:=s.heap.push (aq es1 zm t1)}) hgr q1.ft ?_;dsimp only;have K0:¬(eb.size/8>es1.size):=by have h2:eb.size=1:=qb.size;exact Ra h2
 rw [if_neg K0];refine oR (s:={s with heap:=s.heap.push (aq es1 zm t1)}) Iq qb.ft ?_;refine oJ (n:=88) (n2:=5) (iO ?_);refine zl (s:={s with heap:=s.heap.push (aq es1 zm t1)}) Iq qb fun es' e'=>?_;obtain ⟨tk,e1⟩:=qb.single;rw [←Array.forIn_toList,e',e1,List.forIn_cons];simp only [bind_assoc];unfold holding;simp only [List.filter_cons,List.filter_nil];refine bD (n:=5+1+60) ?_ (by decide);refine DJ (s:={s with heap:=s.heap.push (aq es1 zm t1)}) oQ hgr q1 (Hg hl2) hc m1 d1 fun bg bl t2 q2 m2 d2=>?_;dsimp only;rw [oO];have Ye:(s.heap.push (aq bg bl t2)).get? lb=some (aq eb DY tb):=Heap.get?_push_of_some _ hlb;have Yg:(s.heap.push (aq bg bl t2)).get? s.heap.objs.size=some (aq bg bl t2):=Heap.get?_push_size _ rfl;refine Ip (s:={s with heap:=s.heap.push (aq bg bl t2)}) Ye qb.ft ?_;simp only [pure_bind,List.forIn_nil];refine gi ?_;unfold setTidy;refine bR (s:={s with heap:=s.heap.push (aq bg bl t2)}) Yg q2.ft ?_;have ht:t2.tooManyDummies=false:=by unfold SetTable.tooManyDummies;rw [m2];exact decide_eq_false (by omega)
 dsimp only;rw [ht];simp only [Bool.false_eq_true,↓reduceIte];exact gi (gi ⟨rfl,bg,bl,t2,q2,rfl⟩)
end
end
noncomputable abbrev aP (w:World) (b1 b2:Bool):World:=(w.withFollow "special-get-raises" b1).withFollow "comprehension-iter-twice" b2
theorem tF {P:World→Prop} (h:∀w b1 b2,P (aP w b1 b2)):∀w,P w:=
 byRow2 "comprehension-iter-twice" (P:=P) (byRow2 "special-get-raises" (P:=fun w=>P (w.withFollow "comprehension-iter-twice" false)) (fun w=>h w false false) fun w=>h w true false)
  (byRow2 "special-get-raises" (P:=fun w=>P (w.withFollow "comprehension-iter-twice" true)) (fun w=>h w false true) fun w=>h w true true)
noncomputable abbrev cG:Pos:=⟨0,0,0,0⟩
noncomputable abbrev AJ:Pos:=⟨200,13,200,51⟩
noncomputable abbrev dm:Code:=.builtin "set.update.loop" ⟨[.ref 177,.ref 176],[]⟩
noncomputable abbrev zo (k:Tok):Value:=.str ⟨#[60,103,101,110,101,120,112,114,62]⟩ k
noncomputable abbrev Ir (k:Tok):Value:=.str ⟨#[47,99,108,97,105,109,47,99,117,116,46,112,121]⟩ k
noncomputable abbrev Yh:Obj:={cls:=.type "range",data:=.fields #[.int 0 413,.int 32 412,.int 1 414]}
noncomputable abbrev kD (i r:Int):Obj:={cls:=.type "range_iterator",data:=.fields #[.int i 0,.int r 0,.int 1 0]}
noncomputable abbrev Yi:Obj:={cls:=.type "tuple",data:=.seq #[]}
noncomputable abbrev Yj:Obj:={cls:=.none,data:=.fields #[]}
noncomputable abbrev Yk:Obj:={cls:=.type "code",data:=.fields #[zo 415,zo 416,Ir 417,.int 200 0,.int 1 0,.int 0 0,.int 0 0,.int 35 0,.ref 172,.bool true,.int 181 0,.ref 173,.none,.none,.none,.none,.int 418 0,.int 200 0,Ir 419]}
noncomputable abbrev qM (w:World):Obj:={cls:=.type "frame",data:=.dict #[⟨hashStr w ⟨#[46,48]⟩,.str ⟨#[46,48]⟩ 420,.ref 171⟩] 1}
noncomputable abbrev vF (w:World) (i:Int) (t:Tok):Obj:={cls:=.type "frame",data:=.dict #[⟨hashStr w ⟨#[46,48]⟩,.str ⟨#[46,48]⟩ 420,.ref 171⟩,⟨hashStr w ⟨#[105]⟩,.str ⟨#[105]⟩ 424,.int i t⟩] 2}
noncomputable abbrev Yl:Obj:={cls:=.type "generator",data:=.fields #[.int 0 0,zo 421,zo 422]}
noncomputable abbrev S9 (o:Obj):Obj:={o with data:=match o.data with
 |.fields vs=>.fields (vs++#[.int 200 0,.int 23 0,.ref 174])
 |d=>d}
noncomputable abbrev trB (w:World):BT:=(UK w.params).set 12 S9
noncomputable abbrev Mm (w:World) (a b O:Obj):BT:=((((((((trB w).ins 170 Yh).ins 171 a).ins 172 Yi).ins 173 Yj).ins 174 Yk).ins 175 b).ins 176 Yl).ins 177 O
noncomputable abbrev vH (w:World) (os:OsState) (a b O:Obj) (g:GenState) (k:Nat):SharedT:=⟨Mm w a b O,178,{},#[g],{},k,os⟩
noncomputable abbrev U8 (w:World) (os:OsState):SharedT:=⟨UK w.params,170,{},#[],{},412,os⟩
noncomputable abbrev Ym (k1 k2 k3:Result→Sem PySem.Fin) (b:List Stmt):List Frame:=
 [.ret k1 none false [.ref 177] (.builtin "frozenset.__new__" ⟨[.type "frozenset",.ref 176],[]⟩) AJ [.ref 177,.ref 176],
  .ret k2 none false [] (.builtin "type.__call__" ⟨[.type "frozenset",.ref 176],[]⟩) AJ [.builtin "frozenset.__new__",.type "frozenset",.ref 176,.builtin "frozenset.__new__",.type "frozenset",.ref 176],
  .ret k3 none false [] (.body b cg) AJ [.type "frozenset",.ref 176],
  topFrame cG]
noncomputable abbrev Tc:Stmt:=PySem.Challenge.pw_ik0202_01.main.body.getD 25 default
noncomputable abbrev Gj (b rest:List Stmt):Thread:=restOf (Tc::rest) cg (.body b cg) ⟨199,0,199,8⟩ [topFrame cG]
noncomputable def Td (w:World) (p:Program) (b rest:List Stmt) (os:OsState):SharedT×Thread:= (Fast.tw10295753902157049106 Fast.tw14364793385576792824 p w 11 aJ 0 86 (U8 w os) (Gj b rest)).getD (U8 w os,Gj b rest)
noncomputable def Mn:Frame→Result→Sem PySem.Fin
 |.ret k _ _ _ _ _ _=>k
 |_=>fun _=>.unsupported ""
noncomputable abbrev kA (i:Nat) (w:World) (p:Program) (b rest:List Stmt) (os:OsState):Result→Sem PySem.Fin:=Mn ((Td w p b rest os).2.stack.getD i (topFrame cG))
noncomputable abbrev gA (w:World) (p:Program) (b rest:List Stmt) (os:OsState):GenState:=(Td w p b rest os).1.gens.getD 0 .finished
noncomputable abbrev oU (w:World):Bool:=!w.params.followText "set-order"
theorem Yn (p:Program) (b rest:List Stmt) (os:OsState) (w:World) (b1 b2:Bool):segGoT treeTable p (aP w b1 b2) 11 aJ 0 86 (U8 (aP w b1 b2) os) (Gj b rest)=
  some (vH (aP w b1 b2) os (kD 0 32) (qM (aP w b1 b2)) (aq #[] 0 (.fresh 0 0 (oU (aP w b1 b2)))) (gA (aP w b1 b2) p b rest os) 423,
   ⟨denote treeTable dm,dm,AJ,Ym (kA 0 (aP w b1 b2) p b rest os) (kA 1 (aP w b1 b2) p b rest os) (kA 2 (aP w b1 b2) p b rest os) b⟩):=by
 rw [Fast.te10295753902157049106,Fast.te14364793385576792824,Fast.te11892475500146522536];cases b1 <;>cases b2 <;>kernel_rfl
noncomputable abbrev K1:List Stmt:=PySem.Challenge.pw_ik0202_01.main.body.take 25
theorem Yo (p:Program) (b rest:List Stmt) (os:OsState) (w:World) (b1 b2:Bool):segGoT treeTable p (aP w b1 b2) 11 aJ 0 1062 ⟨WZ (aP w b1 b2).params,15,{},#[],{},187,os⟩ (restOf (K1++rest) cg (.body b cg) cG [topFrame cG])=
  some (⟨UK (aP w b1 b2).params,170,{},#[],{},412,os⟩,restOf rest cg (.body b cg) ⟨199,0,199,8⟩ [topFrame cG]):=by
 rw [Fast.te10295753902157049106,Fast.te14364793385576792824];cases b1 <;>cases b2 <;>kernel_rfl
theorem K2 (p:Program) (b rest:List Stmt) (os:OsState):∀w:World,Reach p w 1062 (SharedT.abs ⟨WZ w.params,15,{},#[],{},187,os⟩) (restOf (K1++rest) cg (.body b cg) cG [topFrame cG]) (SharedT.abs ⟨UK w.params,170,{},#[],{},412,os⟩) (restOf rest cg (.body b cg) ⟨199,0,199,8⟩ [topFrame cG]):= tF fun w b1 b2=>aS (segGo_of (Yo p b rest os w b1 b2))
noncomputable abbrev tN (cur:Sem PySem.Fin) (k1 k2 k3:Result→Sem PySem.Fin) (b:List Stmt):Thread:=⟨cur,dm,AJ,Ym k1 k2 k3 b⟩
noncomputable abbrev Te (c:Nat) (k:Tok):Sem PySem.Fin:=(setAdd 177 (.str ⟨#[c]⟩ k)).bind fun _=>again dm
noncomputable abbrev Yp:Result→Sem PySem.Fin:=fun _=>.unsupported ""
noncomputable def g1 (w:World) (p:Program) (b rest:List Stmt) (os:OsState):GenState:=
 ((Fast.tw10295753902157049106 Fast.tw14364793385576792824 p (aP w false true) 11 aJ 0 46 (vH (aP w false true) os (kD 0 32) (qM (aP w false true)) (aq #[] 0 (.fresh 0 0 false)) (gA (aP w false true) p b rest os) 423)
  (tN (Fast.tw11892475500146522536 Fast.tw14364793385576792824 dm) Yp Yp Yp b)).map fun r=>r.1.gens.getD 0 .finished).getD .finished
theorem K4 (p:Program) (b rest:List Stmt) (os:OsState) (w:World) (b1:Bool) (k1 k2 k3:Result→Sem PySem.Fin) (es:Array (Int×Value)) (ep:Nat) (t:SetTable):
  segGoT treeTable p (aP w b1 true) 11 aJ 0 46 (vH (aP w b1 true) os (kD 0 32) (qM (aP w b1 true)) (aq es ep t) (gA (aP w b1 true) p b rest os) 423) (tN (denote treeTable dm) k1 k2 k3 b)=
   some (vH (aP w b1 true) os (kD 1 31) (vF (aP w b1 true) 0 423) (aq es ep t) (g1 w p b rest os) 426,tN (Te 0 425) k1 k2 k3 b):=by
 unfold Te;rw [Fast.te10295753902157049106,Fast.te14364793385576792824,Fast.te11892475500146522536,Fast.te5518019106960326183,Fast.te12377390311714414960,PySem.W.R.bindR_eq];cases b1 <;>kernel_rfl
theorem K5 (p:Program) (b rest:List Stmt) (os:OsState) (w:World) (b1:Bool) (k1 k2 k3:Result→Sem PySem.Fin) (es:Array (Int×Value)) (ep:Nat) (t:SetTable):
  segGoT treeTable p (aP w b1 false) 11 aJ 0 56 (vH (aP w b1 false) os (kD 0 32) (qM (aP w b1 false)) (aq es ep t) (gA (aP w b1 false) p b rest os) 423) (tN (denote treeTable dm) k1 k2 k3 b)=
   some (vH (aP w b1 false) os (kD 1 31) (vF (aP w b1 false) 0 423) (aq es ep t) (g1 w p b rest os) 426,tN (Te 0 425) k1 k2 k3 b):=by
 unfold Te;rw [Fast.te10295753902157049106,Fast.te14364793385576792824,Fast.te11892475500146522536,Fast.te5518019106960326183,Fast.te12377390311714414960,PySem.W.R.bindR_eq];cases b1 <;>kernel_rfl
noncomputable def Iu (go:(String→Option Builtin)→Program→World→Nat→Option Value→Nat→Nat→SharedT→Thread→Option (SharedT×Thread)) (tb:String→Option Builtin) (den:(String→Option Builtin)→Code→Sem PySem.Fin)
  (sa:Addr→Value→Sem Bool) (ag:Code→Sem PySem.Fin) (bi:{α β:Type}→Sem α→(α→Sem β)→Sem β) (i:Nat):Prop:=
 ∀(p:Program) (b rest:List Stmt) (os:OsState) (w v:World) (k1 k2 k3:Result→Sem PySem.Fin) (es:Array (Int×Value)) (ep:Nat) (t:SetTable),
  go tb p v 11 aJ 0 45 (vH v os (kD i (32-i:Nat)) (vF v (i-1:Nat) (423+4*(i-1))) (aq es ep t) (g1 w p b rest os) (423+4*i)) (tN (den tb dm) k1 k2 k3 b)=
   some (vH v os (kD (i+1:Nat) (32-(i+1):Nat)) (vF v (i+1-1:Nat) (423+4*(i+1-1))) (aq es ep t) (g1 w p b rest os) (423+4*i+3),tN (bi (sa 177 (.str ⟨#[i]⟩ (423+4*i+2))) fun _=>ag dm) k1 k2 k3 b)
noncomputable def br:Nat→Prop:=Iu Fast.tw10295753902157049106 Fast.tw14364793385576792824 Fast.tw11892475500146522536 Fast.tw5518019106960326183 Fast.tw12377390311714414960 @PySem.W.R.bindR
theorem Gk (h:br i):Iu segGoT treeTable denote setAdd again @Sem.bind i:=by rw [Fast.te10295753902157049106,Fast.te14364793385576792824,Fast.te11892475500146522536,Fast.te5518019106960326183,Fast.te12377390311714414960,PySem.W.R.bindR_eq];exact h
theorem Tf:br 1:=fun _ _ _ _ _ _ _ _ _ _ _ _=>by kernel_rfl
theorem Th:br 2:=fun _ _ _ _ _ _ _ _ _ _ _ _=>by kernel_rfl
theorem Ti:br 3:=fun _ _ _ _ _ _ _ _ _ _ _ _=>by kernel_rfl
theorem Tj:br 4:=fun _ _ _ _ _ _ _ _ _ _ _ _=>by kernel_rfl
theorem Tn:br 5:=fun _ _ _ _ _ _ _ _ _ _ _ _=>by kernel_rfl
theorem To:br 6:=fun _ _ _ _ _ _ _ _ _ _ _ _=>by kernel_rfl
theorem Tp:br 7:=fun _ _ _ _ _ _ _ _ _ _ _ _=>by kernel_rfl
theorem Tq:br 8:=fun _ _ _ _ _ _ _ _ _ _ _ _=>by kernel_rfl
theorem Tr:br 9:=fun _ _ _ _ _ _ _ _ _ _ _ _=>by kernel_rfl
theorem K6:br 10:=fun _ _ _ _ _ _ _ _ _ _ _ _=>by kernel_rfl
theorem K7:br 11:=fun _ _ _ _ _ _ _ _ _ _ _ _=>by kernel_rfl
theorem K8:br 12:=fun _ _ _ _ _ _ _ _ _ _ _ _=>by kernel_rfl
theorem K9:br 13:=fun _ _ _ _ _ _ _ _ _ _ _ _=>by kernel_rfl
theorem La:br 14:=fun _ _ _ _ _ _ _ _ _ _ _ _=>by kernel_rfl
theorem Lb:br 15:=fun _ _ _ _ _ _ _ _ _ _ _ _=>by kernel_rfl
theorem Lc:br 16:=fun _ _ _ _ _ _ _ _ _ _ _ _=>by kernel_rfl
theorem Ld:br 17:=fun _ _ _ _ _ _ _ _ _ _ _ _=>by kernel_rfl
theorem Le:br 18:=fun _ _ _ _ _ _ _ _ _ _ _ _=>by kernel_rfl
theorem Lf:br 19:=fun _ _ _ _ _ _ _ _ _ _ _ _=>by kernel_rfl
theorem Lg:br 20:=fun _ _ _ _ _ _ _ _ _ _ _ _=>by kernel_rfl
theorem Lh:br 21:=fun _ _ _ _ _ _ _ _ _ _ _ _=>by kernel_rfl
theorem Li:br 22:=fun _ _ _ _ _ _ _ _ _ _ _ _=>by kernel_rfl
theorem Lj:br 23:=fun _ _ _ _ _ _ _ _ _ _ _ _=>by kernel_rfl
theorem Lk:br 24:=fun _ _ _ _ _ _ _ _ _ _ _ _=>by kernel_rfl
theorem Lm:br 25:=fun _ _ _ _ _ _ _ _ _ _ _ _=>by kernel_rfl
theorem Ln:br 26:=fun _ _ _ _ _ _ _ _ _ _ _ _=>by kernel_rfl
theorem Lo:br 27:=fun _ _ _ _ _ _ _ _ _ _ _ _=>by kernel_rfl
theorem Lp:br 28:=fun _ _ _ _ _ _ _ _ _ _ _ _=>by kernel_rfl
theorem Lq:br 29:=fun _ _ _ _ _ _ _ _ _ _ _ _=>by kernel_rfl
theorem Lr:br 30:=fun _ _ _ _ _ _ _ _ _ _ _ _=>by kernel_rfl
theorem Ls:br 31:=fun _ _ _ _ _ _ _ _ _ _ _ _=>by kernel_rfl
section
theorem Tt (p:Program) (c:Nat) (k:Tok) (s:Shared):∀v:World,cf (denote treeTable) p v 30 Int (pyHash (.str ⟨#[c]⟩ k)) s=some (hashStr v ⟨#[c]⟩,{s with toks:=s.toks+1}):=by rw [Fast.te11892475500146522536,Fast.te14364793385576792824];obtain ⟨heap,gens,drawn,toks,os⟩:=s;refine byRow2 "special-get-raises" ?_ ?_ <;>(intro w;kernel_rfl)
theorem Gl {p:Program} {v:World} {k:Tok} (ha:11≤a) (hg:s.heap.get? a=some (aq es ep t)) (q:SS v es t cs) (hl:cs.length<90) (hc:c∉cs):
  bF p v 40 (setAdd a (.str ⟨#[c]⟩ k)) (fun _ s'=>∃es' fj t',SS v es' t' (cs++[c])∧s'={s with toks:=s.toks+1,heap:=s.heap.update a fun _=>aq es' fj t'}) s:=by
 unfold setAdd holding;simp only [List.filter_cons,List.filter_nil,Bool.false_eq_true,↓reduceIte];refine DI (n:=0+10) (Tt p c k s v) ?_;refine vz (S3 (s:={s with toks:=s.toks+1}) ha hg q hl hc fun es' fj t' q'=>gi ⟨es',fj,t',q',rfl⟩)
theorem event {p:Program} {v:World} {T:Obj→BT} {n a:Nat} {g:Array GenState} {os:OsState} {lp:Code} {fr:List Frame} (ha:11≤a) (han:a<n) (hT:∀O,(T O).get a=some O) (hU:∀O O',(T O).set a (fun _=>O')=T O')
  (hlp:∃args,lp=.builtin "set.update.loop" args) {kx:Tok} (q:SS v es t cs) (hl:cs.length<90) (hc:c∉cs):
  ∃es' fj t',SS v es' t' (cs++[c])∧Reach p v (cost 40+1) (SharedT.abs ⟨T (aq es ep t),n,{},g,{},K,os⟩) ⟨(setAdd a (.str ⟨#[c]⟩ kx)).bind fun _=>again lp,lp,pos,fr⟩
   (SharedT.abs ⟨T (aq es' fj t'),n,{},g,{},K+1,os⟩) ⟨denote treeTable lp,lp,pos,fr⟩:=by
 have hg:(SharedT.abs ⟨T (aq es ep t),n,{},g,{},K,os⟩).heap.get? a=some (aq es ep t):=abs_get han (hT _);obtain ⟨x,s',⟨es',fj,t',q',e⟩,hr⟩:=lz (Gl (p:=p) (k:=kx) ha hg q hl hc);refine ⟨es',fj,t',q',?_⟩;have hs:s'=SharedT.abs ⟨T (aq es' fj t'),n,{},g,{},K+1,os⟩:=by
  rw [e];have:(SharedT.abs ⟨T (aq es ep t),n,{},g,{},K,os⟩).heap.update a (fun _=>aq es' fj t')=(SharedT.abs ⟨T (aq es' fj t'),n,{},g,{},K,os⟩).heap:=by show (absHeap (T (aq es ep t)) n {}).update a (fun _=>aq es' fj t')=absHeap (T (aq es' fj t')) n {};rw [←absHeap_set (hT _),hU]
  show (⟨_,_,_,_,_⟩:Shared)=⟨_,_,_,_,_⟩;rw [this];rfl
 rw [hs] at hr;obtain ⟨args,rfl⟩:=hlp
 refine (hr (fun _=>again (.builtin "set.update.loop" args)) _ pos fr).trans (Reach.step (by
  have h1:zf (.builtin "set.update.loop" args)=true:=by show (!("set.update.loop".startsWith "lifetime."))=true;decide+kernel
  have h1:(!("set.update.loop".startsWith "lifetime."))=true:=h1;have:((!("set.update.loop".startsWith "lifetime.")||Thread.atExit ⟨.pure (.again (.builtin "set.update.loop" args)),.builtin "set.update.loop" args,pos,fr⟩)&&!false&&true)=true:=by rw [h1];rfl
  exact Bool.and_eq_true_iff.mpr ⟨this,rfl⟩) rfl)
theorem Gm (w:World) (a b O:Obj):(Mm w a b O).get 177=some O:=by kernel_rfl
theorem Gp (w:World) (a b O O':Obj):(Mm w a b O).set 177 (fun _=>O')=Mm w a b O':=by kernel_rfl
theorem DK {p:Program} {v:World} {os:OsState} {a b a' b':Obj} {g g':GenState} {n k k':Nat} {kx:Tok} {k1 k2 k3:Result→Sem PySem.Fin} {bd:List Stmt}
  (h:segGoT treeTable p v 11 aJ 0 n (vH v os a b (aq es ep t) g k) (tN (denote treeTable dm) k1 k2 k3 bd)=some (vH v os a' b' (aq es ep t) g' k',tN (Te c kx) k1 k2 k3 bd))
  (hn:n≤60) (q:SS v es t cs) (hl:cs.length<90) (hc:c∉cs):
  ∃es' fj t',SS v es' t' (cs++[c])∧Reach p v (60+(cost 40+1)) (vH v os a b (aq es ep t) g k).abs (tN (denote treeTable dm) k1 k2 k3 bd) (vH v os a' b' (aq es' fj t') g' (k'+1)).abs (tN (denote treeTable dm) k1 k2 k3 bd):=by
 obtain ⟨es',fj,t',q',hr⟩:=event (p:=p) (T:=Mm v a' b') (n:=178) (a:=177) (g:=#[g']) (K:=k') (os:=os) (lp:=dm) (pos:=AJ) (fr:=Ym k1 k2 k3 bd) (kx:=kx) (ep:=ep) (by decide) (by decide) (Gm v a' b') (Gp v a' b') ⟨_,rfl⟩ q hl hc;exact ⟨es',fj,t',q',((aS (segGo_of h)).mono hn).trans hr⟩
noncomputable abbrev nA:Nat:=60+(cost 40+1)
noncomputable def LA (p:Program) (bd rest:List Stmt) (os:OsState) (w:World) (b1 b2:Bool) (k1 k2 k3:Result→Sem PySem.Fin) (led:Bool) (n:Nat):Prop:=
 ∃es ep t,SS (aP w b1 b2) es t (List.range n)∧Reach p (aP w b1 b2) (n*nA) (vH (aP w b1 b2) os (kD 0 32) (qM (aP w b1 b2)) (aq #[] 0 (.fresh 0 0 led)) (gA (aP w b1 b2) p bd rest os) 423).abs (tN (denote treeTable dm) k1 k2 k3 bd)
  (vH (aP w b1 b2) os (kD n (32-n:Nat)) (vF (aP w b1 b2) (n-1:Nat) (423+4*(n-1))) (aq es ep t) (g1 w p bd rest os) (423+4*n)).abs (tN (denote treeTable dm) k1 k2 k3 bd)
section
variable {p:Program} {bd rest:List Stmt} {os:OsState} {w:World} {b1 b2:Bool} {k1 k2 k3:Result→Sem PySem.Fin} {led:Bool}
theorem aO {n:Nat} (hn:n<32) (T:br n) (h:LA p bd rest os w b1 b2 k1 k2 k3 led n):LA p bd rest os w b1 b2 k1 k2 k3 led (n+1):=by
 obtain ⟨es,ep,t,q,r⟩:=h;obtain ⟨es',fj,t',q',r'⟩:=DK (Gk T p bd rest os w (aP w b1 b2) k1 k2 k3 es ep t) (by decide) q (by rw [List.length_range];exact MY hn) (by simp);refine ⟨es',fj,t',?_,?_⟩
 ·rw [List.range_succ];exact q'
 ·rw [Nat.succ_mul];exact r.trans r'
theorem Lu:LA p bd rest os w b1 b2 k1 k2 k3 led 1:=by
 have q:SS (aP w b1 b2) #[] (.fresh 0 0 led) []:=⟨fun e he=>by simp at he,by simp,by rfl⟩;obtain ⟨es',fj,t',q',r'⟩:∃es' fj t',SS (aP w b1 b2) es' t' ([]++[0])∧Reach p (aP w b1 b2) nA (vH (aP w b1 b2) os (kD 0 32) (qM (aP w b1 b2)) (aq #[] 0 (.fresh 0 0 led)) (gA (aP w b1 b2) p bd rest os) 423).abs (tN (denote treeTable dm) k1 k2 k3 bd)
   (vH (aP w b1 b2) os (kD 1 31) (vF (aP w b1 b2) 0 423) (aq es' fj t') (g1 w p bd rest os) 427).abs (tN (denote treeTable dm) k1 k2 k3 bd):=by
  cases b2
  ·exact DK (K5 p bd rest os w b1 k1 k2 k3 #[] 0 (.fresh 0 0 led)) (by decide) q (by decide) (by decide)
  ·exact DK (K4 p bd rest os w b1 k1 k2 k3 #[] 0 (.fresh 0 0 led)) (by decide) q (by decide) (by decide)
 exact ⟨es',fj,t',q',by rw [Nat.one_mul];exact r'⟩
end
theorem AK (p:Program) (bd rest:List Stmt) (os:OsState) (w:World) (b1 b2:Bool) (k1 k2 k3:Result→Sem PySem.Fin) (led:Bool):LA p bd rest os w b1 b2 k1 k2 k3 led 32:= aO (by decide) Ls (aO (by decide) Lr (aO (by decide) Lq (aO (by decide) Lp (aO (by decide) Lo (aO (by decide) Ln (aO (by decide) Lm (aO (by decide) Lk (aO (by decide) Lj (aO (by decide) Li (aO (by decide) Lh (aO (by decide) Lg (aO (by decide) Lf (aO (by decide) Le (aO (by decide) Ld (aO (by decide) Lc (aO (by decide) Lb (aO (by decide) La (aO (by decide) K9 (aO (by decide) K8 (aO (by decide) K7 (aO (by decide) K6 (aO (by decide) Tr (aO (by decide) Tq (aO (by decide) Tp (aO (by decide) To (aO (by decide) Tn (aO (by decide) Tj (aO (by decide) Ti (aO (by decide) Th (aO (by decide) Tf Lu))))))))))))))))))))))))))))))
end
noncomputable abbrev j4:Obj:={cls:=.type "tuple",data:=.seq #[]}
noncomputable abbrev vI (r:Addr):Obj:={cls:=.type "StopIteration",data:=.fields #[.ref r,.none,.none,.none,.bool false,.none]}
noncomputable abbrev cH (x:Value) (i:Int):Obj:={cls:=.type "str_ascii_iterator",data:=.fields #[x,.int i 0]}
noncomputable abbrev eG:Sem PySem.Fin:=.pure (.done (.ret .none))
noncomputable def U9 (v:World) (O:Obj):BT:=((((Mm v (kD 32 0) (vF v 31 547) O).ins 178 j4).ins 179 (vI 178)).ins 180 j4).ins 181 (vI 180)
noncomputable def gF:Array GenState:=#[.finished]
theorem Yq (p:Program) (b rest:List Stmt) (os:OsState) (w v:World) (k1 k2 k3:Result→Sem PySem.Fin) (es:Array (Int×Value)) (ep:Nat) (t:SetTable):
  segGoT treeTable p v 11 aJ 0 30 (vH v os (kD 32 0) (vF v 31 547) (aq es ep t) (g1 w p b rest os) 551) (tN (denote treeTable dm) k1 k2 k3 b)=
   some (⟨U9 v (aq es ep t),182,{},gF,{},551,os⟩,tN eG k1 k2 k3 b):=by
 rw [Fast.te10295753902157049106,Fast.te14364793385576792824,Fast.te11892475500146522536];kernel_rfl
noncomputable abbrev posB:Pos:=⟨200,54,200,73⟩
noncomputable abbrev pR:Value:=.str ⟨#[127]⟩ 552
noncomputable abbrev oV:Code:=.builtin "set.update.loop" ⟨[.ref 182,.ref 183],[]⟩
noncomputable abbrev Yr (k1 k2 k3:Result→Sem PySem.Fin) (b:List Stmt):List Frame:=
 [.ret k1 none false [.ref 182] (.builtin "frozenset.__new__" ⟨[.type "frozenset",pR],[]⟩) posB [.ref 182,.ref 183],
  .ret k2 none false [] (.builtin "type.__call__" ⟨[.type "frozenset",pR],[]⟩) posB [.builtin "frozenset.__new__",.type "frozenset",pR,.builtin "frozenset.__new__",.type "frozenset",pR],
  .ret k3 none false [.ref 177] (.body b cg) posB [.type "frozenset",pR],
  topFrame cG]
noncomputable def qT (v:World) (O I O2:Obj):BT:=((U9 v O).ins 182 O2).ins 183 I
noncomputable abbrev Ys (w:World) (p:Program) (b rest:List Stmt) (os:OsState):Thread:=tN eG (kA 0 w p b rest os) (kA 1 w p b rest os) (kA 2 w p b rest os) b
noncomputable def Yt (w:World) (p:Program) (b rest:List Stmt) (os:OsState):Thread:= ((Fast.tw10295753902157049106 Fast.tw14364793385576792824 p w 11 aJ 0 38 ⟨U9 w (aq #[] 0 (.fresh 0 0 false)),182,{},gF,{},551,os⟩ (Ys w p b rest os)).map (·.2)).getD (Ys w p b rest os)
noncomputable abbrev kB (i:Nat) (w:World) (p:Program) (b rest:List Stmt) (os:OsState):Result→Sem PySem.Fin:=Mn ((Yt w p b rest os).stack.getD i (topFrame cG))
theorem Yu (p:Program) (b rest:List Stmt) (os:OsState) (w:World) (b1 b2:Bool) (es:Array (Int×Value)) (ep:Nat) (t:SetTable):
  segGoT treeTable p (aP w b1 b2) 11 aJ 0 38 ⟨U9 (aP w b1 b2) (aq es ep t),182,{},gF,{},551,os⟩ (Ys (aP w b1 b2) p b rest os)=
   some (⟨qT (aP w b1 b2) (aq es ep t) (cH pR 0) (aq #[] 0 (.fresh 0 0 (oU (aP w b1 b2)))),184,{},gF,{},553,os⟩,
    ⟨denote treeTable oV,oV,posB,Yr (kB 0 (aP w b1 b2) p b rest os) (kB 1 (aP w b1 b2) p b rest os) (kB 2 (aP w b1 b2) p b rest os) b⟩):=by
 rw [Fast.te10295753902157049106,Fast.te14364793385576792824,Fast.te11892475500146522536];cases b1 <;>cases b2 <;>kernel_rfl
noncomputable abbrev DL (cur:Sem PySem.Fin) (k1 k2 k3:Result→Sem PySem.Fin) (b:List Stmt):Thread:=⟨cur,oV,posB,Yr k1 k2 k3 b⟩
theorem Tu (p:Program) (b:List Stmt) (os:OsState) (v:World) (k1 k2 k3:Result→Sem PySem.Fin) (es bg:Array (Int×Value)) (ep bl:Nat) (t t2:SetTable):
  segGoT treeTable p v 11 aJ 0 10 ⟨qT v (aq es ep t) (cH pR 0) (aq bg bl t2),184,{},gF,{},553,os⟩ (DL (denote treeTable oV) k1 k2 k3 b)=
   some (⟨qT v (aq es ep t) (cH pR 1) (aq bg bl t2),184,{},gF,{},554,os⟩,DL ((setAdd 182 (.str ⟨#[127]⟩ 553)).bind fun _=>again oV) k1 k2 k3 b):=by
 rw [Fast.te10295753902157049106,Fast.te14364793385576792824,Fast.te11892475500146522536,Fast.te5518019106960326183,Fast.te12377390311714414960,PySem.W.R.bindR_eq];kernel_rfl
noncomputable def vP (v:World) (O O2:Obj):BT:=((qT v O (cH .none 1) O2).ins 184 j4).ins 185 (vI 184)
theorem Yv (p:Program) (b:List Stmt) (os:OsState) (v:World) (k1 k2 k3:Result→Sem PySem.Fin) (es bg:Array (Int×Value)) (ep bl:Nat) (t t2:SetTable):
  segGoT treeTable p v 11 aJ 0 15 ⟨qT v (aq es ep t) (cH pR 1) (aq bg bl t2),184,{},gF,{},555,os⟩ (DL (denote treeTable oV) k1 k2 k3 b)=
   some (⟨vP v (aq es ep t) (aq bg bl t2),186,{},gF,{},555,os⟩,DL eG k1 k2 k3 b):=by
 rw [Fast.te10295753902157049106,Fast.te14364793385576792824,Fast.te11892475500146522536];kernel_rfl
theorem Gq (v:World) (O I O2:Obj):(qT v O I O2).get 182=some O2:=by kernel_rfl
theorem Gr (v:World) (O I O2 O':Obj):(qT v O I O2).set 182 (fun _=>O')=qT v O I O':=by kernel_rfl
noncomputable abbrev AL:Pos:=⟨200,13,200,73⟩
noncomputable abbrev lC:Code:=.builtin "frozenset.__or__" ⟨[.ref 177,.ref 182],[]⟩
noncomputable abbrev Tv (k1:Result→Sem PySem.Fin) (b:List Stmt):List Frame:= [.ret k1 none false [.ref 177,.ref 182,.ref 177,.ref 182,.ref 177,.ref 182] (.body b cg) AL [.builtin "frozenset.__or__",.ref 177,.ref 182],topFrame cG]
noncomputable abbrev Yw (w:World) (p:Program) (b rest:List Stmt) (os:OsState):Thread:=DL eG (kB 0 w p b rest os) (kB 1 w p b rest os) (kB 2 w p b rest os) b
noncomputable def Yx (w:World) (p:Program) (b rest:List Stmt) (os:OsState):Thread:= ((Fast.tw10295753902157049106 Fast.tw14364793385576792824 p w 11 aJ 0 18 ⟨vP w (aq #[] 0 (.fresh 0 0 false)) (aq #[] 0 (.fresh 0 0 false)),186,{},gF,{},555,os⟩ (Yw w p b rest os)).map (·.2)).getD (Yw w p b rest os)
noncomputable abbrev kC (w:World) (p:Program) (b rest:List Stmt) (os:OsState):Result→Sem PySem.Fin:=Mn ((Yx w p b rest os).stack.getD 0 (topFrame cG))
theorem Yy (p:Program) (b rest:List Stmt) (os:OsState) (w:World) (b1 b2:Bool) (es bg:Array (Int×Value)) (ep bl:Nat) (t t2:SetTable):
  segGoT treeTable p (aP w b1 b2) 11 aJ 0 18 ⟨vP (aP w b1 b2) (aq es ep t) (aq bg bl t2),186,{},gF,{},555,os⟩ (Yw (aP w b1 b2) p b rest os)=
   some (⟨vP (aP w b1 b2) (aq es ep t) (aq bg bl t2),186,{},gF,{},555,os⟩,⟨denote treeTable lC,lC,AL,Tv (kC (aP w b1 b2) p b rest os) b⟩):=by
 rw [Fast.te10295753902157049106,Fast.te14364793385576792824,Fast.te11892475500146522536];cases b1 <;>cases b2 <;>kernel_rfl
noncomputable abbrev bindG (h:Int) (k v:Value) (o:Obj):Obj:={o with data:=match o.data with
 |.dict es ep=>.dict (es.push ⟨h,k,v⟩) (ep+1)
 |d=>d}
noncomputable abbrev DM:Str:=⟨#[65,83,67,73,73,95,67,84,82,76]⟩
noncomputable def cY (v:World) (O O2 O3:Obj):BT:=((vP v O O2).ins 186 O3).set 3 (bindG (hashStr v DM) (.str DM 555) (.ref 186))
theorem Yz (p:Program) (b rest:List Stmt) (os:OsState) (w:World) (b1 b2:Bool) (es bg bS:Array (Int×Value)) (ep bl bW:Nat) (t t2 t3:SetTable):
  segGoT treeTable p (aP w b1 b2) 11 aJ 0 9 ⟨(vP (aP w b1 b2) (aq es ep t) (aq bg bl t2)).ins 186 (aq bS bW t3),187,{},gF,{},555,os⟩ ⟨.pure (.done (.ret (.ref 186))),lC,AL,Tv (kC (aP w b1 b2) p b rest os) b⟩=
   some (⟨cY (aP w b1 b2) (aq es ep t) (aq bg bl t2) (aq bS bW t3),187,{},gF,{},556,os⟩,restOf rest cg (.body b cg) ⟨200,0,200,10⟩ [topFrame cG]):=by
 rw [Fast.te10295753902157049106,Fast.te14364793385576792824];cases b1 <;>cases b2 <;>kernel_rfl
theorem l5 {id:String} {B:Builtin} {args:Args} (h:entryFor table id=some B):denote treeTable (.builtin id args)=B args:=by
 rw [←table_eq_tree]
 show (match entryFor table id with
  |some b=>b args
  |none=>unsupported ((withoutEnding? id "#data").getD id))=_
 rw [h]
theorem DN (v:World) (O O2:Obj):(vP v O O2).get 177=some O:=by kernel_rfl
theorem DO (v:World) (O O2:Obj):(vP v O O2).get 182=some O2:=by kernel_rfl
theorem Gs (v:World) (O O2 O3:Obj):(((vP v O O2).ins 186 O3).get 186).isSome=true:=by kernel_rfl
theorem orR {p:Program} {v:World} (oQ:11≤s.heap.objs.size) (hla:s.heap.get? la=some (aq es ep t)) (q:SS v es t cs) (hl:32≤cs.length) (hl2:cs.length<40)
  (hlb:s.heap.get? lb=some (aq eb DY tb)) (qb:SS v eb tb [c]) (hne:lb≠la) (hc:c∉cs) (pos:Pos) (fr:List Frame):
  ∃es' fj t',SS v es' t' (cs++[c])∧Reach p v (cost 60) s ⟨denote treeTable (.builtin "frozenset.__or__" ⟨[.ref la,.ref lb],[]⟩),.builtin "frozenset.__or__" ⟨[.ref la,.ref lb],[]⟩,pos,fr⟩
   {s with heap:=s.heap.push (aq es' fj t')} ⟨.pure (.done (.ret (.ref s.heap.objs.size))),.builtin "frozenset.__or__" ⟨[.ref la,.ref lb],[]⟩,pos,fr⟩:=by
 obtain ⟨fin,s',⟨e1,bS,bW,t3,q3,e2⟩,hr⟩:=lz (orC (p:=p) oQ hla q hl hl2 hlb qb hne hc);refine ⟨bS,bW,t3,q3,?_⟩;have hr:=hr Sem.pure (.builtin "frozenset.__or__" ⟨[.ref la,.ref lb],[]⟩) pos fr;have e0:(Builtin.«frozenset.__or__» ⟨[.ref la,.ref lb],[]⟩>>=Sem.pure)=denote treeTable (.builtin "frozenset.__or__" ⟨[.ref la,.ref lb],[]⟩):=by rw [l5 jK];exact bind_pure _
 rw [e0,e1,e2] at hr;exact hr
theorem YA {p:Program} {v:World} (oQ:11≤s.heap.objs.size) (hla:s.heap.get? la=some (aq es ep t)) (q:SS v es t cs) (hl:32≤cs.length) (hl2:cs.length<40)
  (hlb:s.heap.get? lb=some (aq eb DY tb)) (qb:SS v eb tb [9]) (hne:lb≠la) (hc:9∈cs) (pos:Pos) (fr:List Frame):
  ∃es' fj t',SS v es' t' (cs.erase 9)∧Reach p v (cost 120) s ⟨denote treeTable (.builtin "frozenset.__sub__" ⟨[.ref la,.ref lb],[]⟩),.builtin "frozenset.__sub__" ⟨[.ref la,.ref lb],[]⟩,pos,fr⟩
   {s with heap:=s.heap.push (aq es' fj t')} ⟨.pure (.done (.ret (.ref s.heap.objs.size))),.builtin "frozenset.__sub__" ⟨[.ref la,.ref lb],[]⟩,pos,fr⟩:=by
 obtain ⟨fin,s',⟨e1,bS,bW,t3,q3,e2⟩,hr⟩:=lz (Yd (p:=p) oQ hla q hl hl2 hlb qb hne hc);refine ⟨bS,bW,t3,q3,?_⟩;have hr:=hr Sem.pure (.builtin "frozenset.__sub__" ⟨[.ref la,.ref lb],[]⟩) pos fr;have e0:(Builtin.«frozenset.__sub__» ⟨[.ref la,.ref lb],[]⟩>>=Sem.pure)=denote treeTable (.builtin "frozenset.__sub__" ⟨[.ref la,.ref lb],[]⟩):=by rw [l5 jj];exact bind_pure _
 rw [e0,e1,e2] at hr;exact hr
theorem vJ {T:BT} {n:Nat} {life:Life} {g:Array GenState} {d:Drawn} {k:Nat} {os:OsState} (h:((T.ins n o).get n).isSome=true):
  ({SharedT.abs ⟨T,n,life,g,d,k,os⟩ with heap:=(SharedT.abs ⟨T,n,life,g,d,k,os⟩).heap.push o}:Shared)=SharedT.abs ⟨T.ins n o,n+1,life,g,d,k,os⟩:=by
 have:=absHeap_ins (life:=life) h;show (⟨(absHeap T n life).push o,g,d,k,os⟩:Shared)=⟨absHeap (T.ins n o) (n+1) life,g,d,k,os⟩;rw [this]
theorem vK (T:BT) (n:Nat) (life:Life) (g:Array GenState) (d:Drawn) (k:Nat) (os:OsState):(SharedT.abs ⟨T,n,life,g,d,k,os⟩).heap.objs.size=n:=absHeap_size _ _ _
theorem kE {T:BT} {n:Nat} {life:Life} {g:Array GenState} {d:Drawn} {k:Nat} {os:OsState} {a:Nat} (h:a<n) (e:T.get a=some (aq es ep t)):
  (SharedT.abs ⟨T,n,life,g,d,k,os⟩).heap.get? a=some (aq es ep t):=abs_get h e
theorem Lv (p:Program) (v:World) (os:OsState) {bg:Array (Int×Value)} {bl:Nat} {t2:SetTable} (q:SS v es t (List.range 32)) (q2:SS v bg t2 [127]) (k:Result→Sem PySem.Fin) (b:List Stmt):
  ∃bS bW t3,SS v bS t3 (List.range 32++[127])∧Reach p v (cost 60) (SharedT.abs ⟨vP v (aq es ep t) (aq bg bl t2),186,{},gF,{},555,os⟩) ⟨denote treeTable lC,lC,AL,Tv k b⟩
   (SharedT.abs ⟨(vP v (aq es ep t) (aq bg bl t2)).ins 186 (aq bS bW t3),187,{},gF,{},555,os⟩) ⟨.pure (.done (.ret (.ref 186))),lC,AL,Tv k b⟩:=by
 have hz:=vK (vP v (aq es ep t) (aq bg bl t2)) 186 {} gF {} 555 os;have h1:=kE (T:=vP v (aq es ep t) (aq bg bl t2)) (n:=186) (life:={}) (g:=gF) (d:={}) (k:=555) (os:=os) (a:=177) (by decide) (DN _ _ _);have h2:=kE (T:=vP v (aq es ep t) (aq bg bl t2)) (n:=186) (life:={}) (g:=gF) (d:={}) (k:=555) (os:=os) (a:=182) (by decide) (DO _ _ _);have h3:=fun o=>vJ (T:=vP v (aq es ep t) (aq bg bl t2)) (n:=186) (life:={}) (g:=gF) (d:={}) (k:=555) (os:=os) (Gs v (aq es ep t) (aq bg bl t2) o);generalize SharedT.abs ⟨vP v (aq es ep t) (aq bg bl t2),186,{},gF,{},555,os⟩=s at hz h1 h2 h3⊢;obtain ⟨bS,bW,t3,q3,hr⟩:=orR (p:=p) (by rw [hz];decide) h1 q (by decide) (by decide) h2 q2 (by decide) (c:=127) (by decide) AL (Tv k b);rw [hz,h3] at hr;exact ⟨bS,bW,t3,q3,hr⟩
noncomputable def n25:Nat:=86+(32*nA+(30+(38+(10+((cost 40+1)+(15+(18+(cost 60+9))))))))
theorem Tw (p:Program) (b rest:List Stmt) (os:OsState):∀w:World,∃es ep t bg bl t2 bS bW t3,SS w es t (List.range 32)∧SS w bg t2 [127]∧SS w bS t3 (List.range 32++[127])∧
  Reach p w n25 (U8 w os).abs (Gj b rest) (SharedT.abs ⟨cY w (aq es ep t) (aq bg bl t2) (aq bS bW t3),187,{},gF,{},556,os⟩) (restOf rest cg (.body b cg) ⟨200,0,200,10⟩ [topFrame cG]):=by
 refine tF fun w b1 b2=>?_;have rA:=aS (segGo_of (Yn p b rest os w b1 b2));obtain ⟨es,ep,t,q,rL⟩:=AK p b rest os w b1 b2 (kA 0 (aP w b1 b2) p b rest os) (kA 1 (aP w b1 b2) p b rest os) (kA 2 (aP w b1 b2) p b rest os) (oU (aP w b1 b2));have rE:=aS (segGo_of (Yq p b rest os w (aP w b1 b2) (kA 0 (aP w b1 b2) p b rest os) (kA 1 (aP w b1 b2) p b rest os) (kA 2 (aP w b1 b2) p b rest os) es ep t));have rB:=aS (segGo_of (Yu p b rest os w b1 b2 es ep t));have q0:SS (aP w b1 b2) #[] (.fresh 0 0 (oU (aP w b1 b2))) []:=⟨fun e he=>by simp at he,by simp,by rfl⟩;have rT:=aS (segGo_of (Tu p b os (aP w b1 b2) (kB 0 (aP w b1 b2) p b rest os) (kB 1 (aP w b1 b2) p b rest os) (kB 2 (aP w b1 b2) p b rest os) es #[] ep 0 t (.fresh 0 0 (oU (aP w b1 b2)))));obtain ⟨bg,bl,t2,q2,rV⟩:=event (p:=p) (T:=fun O=>qT (aP w b1 b2) (aq es ep t) (cH pR 1) O) (n:=184) (a:=182) (g:=gF) (K:=554) (os:=os) (lp:=oV) (pos:=posB) (fr:=Yr (kB 0 (aP w b1 b2) p b rest os) (kB 1 (aP w b1 b2) p b rest os) (kB 2 (aP w b1 b2) p b rest os) b) (kx:=553) (ep:=0) (by decide) (by decide)
  (Gq _ _ _) (Gr _ _ _) ⟨_,rfl⟩ q0 (by decide) (c:=127) (by decide)
 have rF:=aS (segGo_of (Yv p b os (aP w b1 b2) (kB 0 (aP w b1 b2) p b rest os) (kB 1 (aP w b1 b2) p b rest os) (kB 2 (aP w b1 b2) p b rest os) es bg ep bl t t2));have rC:=aS (segGo_of (Yy p b rest os w b1 b2 es bg ep bl t t2));obtain ⟨bS,bW,t3,q3,rO⟩:=Lv p (aP w b1 b2) os (ep:=ep) (bl:=bl) q q2 (kC (aP w b1 b2) p b rest os) b;have rD:=aS (segGo_of (Yz p b rest os w b1 b2 es bg bS ep bl bW t t2 t3));refine ⟨es,ep,t,bg,bl,t2,bS,bW,t3,q,q2,q3,?_⟩;exact rA.trans (rL.trans (rE.trans (rB.trans (rT.trans (rV.trans (rF.trans (rC.trans (rO.trans rD))))))))
noncomputable abbrev Lw:Stmt:=PySem.Challenge.pw_ik0202_01.main.body.getD 26 default
noncomputable abbrev Gu (b rest:List Stmt):Thread:=restOf (Lw::rest) cg (.body b cg) ⟨200,0,200,10⟩ [topFrame cG]
noncomputable abbrev DP:Pos:=⟨201,39,201,54⟩
noncomputable abbrev pS:Value:=.str ⟨#[9]⟩ 556
noncomputable abbrev qN:Code:=.builtin "set.update.loop" ⟨[.ref 187,.ref 188],[]⟩
noncomputable abbrev frT (k1 k2 k3:Result→Sem PySem.Fin) (b:List Stmt):List Frame:=
 [.ret k1 none false [.ref 187] (.builtin "frozenset.__new__" ⟨[.type "frozenset",pS],[]⟩) DP [.ref 187,.ref 188],
  .ret k2 none false [] (.builtin "type.__call__" ⟨[.type "frozenset",pS],[]⟩) DP [.builtin "frozenset.__new__",.type "frozenset",pS,.builtin "frozenset.__new__",.type "frozenset",pS],
  .ret k3 none false [.ref 186] (.body b cg) DP [.type "frozenset",pS],
  topFrame cG]
noncomputable def Gv (B:BT) (I O4:Obj):BT:=(B.ins 187 O4).ins 188 I
noncomputable abbrev AM (cur:Sem PySem.Fin) (k1 k2 k3:Result→Sem PySem.Fin) (b:List Stmt):Thread:=⟨cur,qN,DP,frT k1 k2 k3 b⟩
noncomputable abbrev AV:Obj:=aq #[] 0 (.fresh 0 0 false)
noncomputable def YB (w:World) (p:Program) (b rest:List Stmt) (os:OsState):Thread:= ((Fast.tw10295753902157049106 Fast.tw14364793385576792824 p w 11 aJ 0 21 ⟨cY w AV AV AV,187,{},gF,{},556,os⟩ (Gu b rest)).map (·.2)).getD (Gu b rest)
noncomputable abbrev kT (i:Nat) (w:World) (p:Program) (b rest:List Stmt) (os:OsState):Result→Sem PySem.Fin:=Mn ((YB w p b rest os).stack.getD i (topFrame cG))
theorem YC (p:Program) (b rest:List Stmt) (os:OsState) (w:World) (b1 b2:Bool) (es bg bS:Array (Int×Value)) (ep bl bW:Nat) (t t2 t3:SetTable):
  segGoT treeTable p (aP w b1 b2) 11 aJ 0 21 ⟨cY (aP w b1 b2) (aq es ep t) (aq bg bl t2) (aq bS bW t3),187,{},gF,{},556,os⟩ (Gu b rest)=
   some (⟨Gv (cY (aP w b1 b2) (aq es ep t) (aq bg bl t2) (aq bS bW t3)) (cH pS 0) (aq #[] 0 (.fresh 0 0 (oU (aP w b1 b2)))),189,{},gF,{},557,os⟩,
    AM (denote treeTable qN) (kT 0 (aP w b1 b2) p b rest os) (kT 1 (aP w b1 b2) p b rest os) (kT 2 (aP w b1 b2) p b rest os) b):=by
 rw [Fast.te10295753902157049106,Fast.te14364793385576792824,Fast.te11892475500146522536];cases b1 <;>cases b2 <;>kernel_rfl
theorem turnT (p:Program) (b:List Stmt) (os:OsState) (v:World) (k1 k2 k3:Result→Sem PySem.Fin) (es bg bS dO:Array (Int×Value)) (ep bl bW dP:Nat) (t t2 t3 t4:SetTable):
  segGoT treeTable p v 11 aJ 0 10 ⟨Gv (cY v (aq es ep t) (aq bg bl t2) (aq bS bW t3)) (cH pS 0) (aq dO dP t4),189,{},gF,{},557,os⟩ (AM (denote treeTable qN) k1 k2 k3 b)=
   some (⟨Gv (cY v (aq es ep t) (aq bg bl t2) (aq bS bW t3)) (cH pS 1) (aq dO dP t4),189,{},gF,{},558,os⟩,AM ((setAdd 187 (.str ⟨#[9]⟩ 557)).bind fun _=>again qN) k1 k2 k3 b):=by
 rw [Fast.te10295753902157049106,Fast.te14364793385576792824,Fast.te11892475500146522536,Fast.te5518019106960326183,Fast.te12377390311714414960,PySem.W.R.bindR_eq];kernel_rfl
noncomputable def vQ (B:BT) (O4:Obj):BT:=((Gv B (cH .none 1) O4).ins 189 j4).ins 190 (vI 189)
theorem YD (p:Program) (b:List Stmt) (os:OsState) (v:World) (k1 k2 k3:Result→Sem PySem.Fin) (es bg bS dO:Array (Int×Value)) (ep bl bW dP:Nat) (t t2 t3 t4:SetTable):
  segGoT treeTable p v 11 aJ 0 15 ⟨Gv (cY v (aq es ep t) (aq bg bl t2) (aq bS bW t3)) (cH pS 1) (aq dO dP t4),189,{},gF,{},559,os⟩ (AM (denote treeTable qN) k1 k2 k3 b)=
   some (⟨vQ (cY v (aq es ep t) (aq bg bl t2) (aq bS bW t3)) (aq dO dP t4),191,{},gF,{},559,os⟩,AM eG k1 k2 k3 b):=by
 rw [Fast.te10295753902157049106,Fast.te14364793385576792824,Fast.te11892475500146522536];kernel_rfl
theorem Gw (w:World) (O O2 O3 I O4:Obj):(Gv (cY w O O2 O3) I O4).get 187=some O4:=by kernel_rfl
theorem Gy (w:World) (O O2 O3 I O4 O':Obj):(Gv (cY w O O2 O3) I O4).set 187 (fun _=>O')=Gv (cY w O O2 O3) I O':=by kernel_rfl
theorem DQ (w:World) (O O2 O3 O4:Obj):(vQ (cY w O O2 O3) O4).get 186=some O3:=by kernel_rfl
theorem DR (w:World) (O O2 O3 O4:Obj):(vQ (cY w O O2 O3) O4).get 187=some O4:=by kernel_rfl
theorem Gz (w:World) (O O2 O3 O4 O5:Obj):(((vQ (cY w O O2 O3) O4).ins 191 O5).get 191).isSome=true:=by kernel_rfl
noncomputable abbrev AN:Pos:=⟨201,26,201,54⟩
noncomputable abbrev jd:Code:=.builtin "frozenset.__sub__" ⟨[.ref 186,.ref 187],[]⟩
noncomputable abbrev Tz (k1:Result→Sem PySem.Fin) (b:List Stmt):List Frame:= [.ret k1 none false [.ref 186,.ref 187,.ref 186,.ref 187,.ref 186,.ref 187] (.body b cg) AN [.builtin "frozenset.__sub__",.ref 186,.ref 187],topFrame cG]
noncomputable abbrev YE (w:World) (p:Program) (b rest:List Stmt) (os:OsState):Thread:=AM eG (kT 0 w p b rest os) (kT 1 w p b rest os) (kT 2 w p b rest os) b
noncomputable def YF (w:World) (p:Program) (b rest:List Stmt) (os:OsState):Thread:= ((Fast.tw10295753902157049106 Fast.tw14364793385576792824 p w 11 aJ 0 18 ⟨vQ (cY w AV AV AV) AV,191,{},gF,{},559,os⟩ (YE w p b rest os)).map (·.2)).getD (YE w p b rest os)
noncomputable abbrev kS (w:World) (p:Program) (b rest:List Stmt) (os:OsState):Result→Sem PySem.Fin:=Mn ((YF w p b rest os).stack.getD 0 (topFrame cG))
theorem YG (p:Program) (b rest:List Stmt) (os:OsState) (w:World) (b1 b2:Bool) (es bg bS dO:Array (Int×Value)) (ep bl bW dP:Nat) (t t2 t3 t4:SetTable):
  segGoT treeTable p (aP w b1 b2) 11 aJ 0 18 ⟨vQ (cY (aP w b1 b2) (aq es ep t) (aq bg bl t2) (aq bS bW t3)) (aq dO dP t4),191,{},gF,{},559,os⟩ (YE (aP w b1 b2) p b rest os)=
   some (⟨vQ (cY (aP w b1 b2) (aq es ep t) (aq bg bl t2) (aq bS bW t3)) (aq dO dP t4),191,{},gF,{},559,os⟩,⟨denote treeTable jd,jd,AN,Tz (kS (aP w b1 b2) p b rest os) b⟩):=by
 rw [Fast.te10295753902157049106,Fast.te14364793385576792824,Fast.te11892475500146522536];cases b1 <;>cases b2 <;>kernel_rfl
noncomputable abbrev zp:Str:=⟨#[73,76,76,69,71,65,76,95,66,65,83,73,67,95,83,84,82,95,67,72,65,82,83]⟩
noncomputable def AO (v:World) (O O2 O3 O4 O5:Obj):BT:=((vQ (cY v O O2 O3) O4).ins 191 O5).set 3 (bindG (hashStr v zp) (.str zp 559) (.ref 191))
theorem YH (p:Program) (b rest:List Stmt) (os:OsState) (w:World) (b1 b2:Bool) (es bg bS dO gJ:Array (Int×Value)) (ep bl bW dP gX:Nat) (t t2 t3 t4 t5:SetTable):
  segGoT treeTable p (aP w b1 b2) 11 aJ 0 9 ⟨(vQ (cY (aP w b1 b2) (aq es ep t) (aq bg bl t2) (aq bS bW t3)) (aq dO dP t4)).ins 191 (aq gJ gX t5),192,{},gF,{},559,os⟩ ⟨.pure (.done (.ret (.ref 191))),jd,AN,Tz (kS (aP w b1 b2) p b rest os) b⟩=
   some (⟨AO (aP w b1 b2) (aq es ep t) (aq bg bl t2) (aq bS bW t3) (aq dO dP t4) (aq gJ gX t5),192,{},gF,{},560,os⟩,restOf rest cg (.body b cg) ⟨201,0,201,23⟩ [topFrame cG]):=by
 rw [Fast.te10295753902157049106,Fast.te14364793385576792824];cases b1 <;>cases b2 <;>kernel_rfl
theorem GA (p:Program) (v:World) (os:OsState) {bg bS dO:Array (Int×Value)} {bl bW dP:Nat} {t2 t3 t4:SetTable} (q:SS v bS t3 cs) (hl:32≤cs.length) (hl2:cs.length<40) (hc:9∈cs) (q2:SS v dO t4 [9]) (k:Result→Sem PySem.Fin) (b:List Stmt):
  ∃gJ gX t5,SS v gJ t5 (cs.erase 9)∧Reach p v (cost 120) (SharedT.abs ⟨vQ (cY v (aq es ep t) (aq bg bl t2) (aq bS bW t3)) (aq dO dP t4),191,{},gF,{},559,os⟩) ⟨denote treeTable jd,jd,AN,Tz k b⟩
   (SharedT.abs ⟨(vQ (cY v (aq es ep t) (aq bg bl t2) (aq bS bW t3)) (aq dO dP t4)).ins 191 (aq gJ gX t5),192,{},gF,{},559,os⟩) ⟨.pure (.done (.ret (.ref 191))),jd,AN,Tz k b⟩:=by
 have hz:=vK (vQ (cY v (aq es ep t) (aq bg bl t2) (aq bS bW t3)) (aq dO dP t4)) 191 {} gF {} 559 os;have h1:=kE (T:=vQ (cY v (aq es ep t) (aq bg bl t2) (aq bS bW t3)) (aq dO dP t4)) (n:=191) (life:={}) (g:=gF) (d:={}) (k:=559) (os:=os) (a:=186) (by decide) (DQ _ _ _ _ _);have h2:=kE (T:=vQ (cY v (aq es ep t) (aq bg bl t2) (aq bS bW t3)) (aq dO dP t4)) (n:=191) (life:={}) (g:=gF) (d:={}) (k:=559) (os:=os) (a:=187) (by decide) (DR _ _ _ _ _);have h3:=fun o=>vJ (T:=vQ (cY v (aq es ep t) (aq bg bl t2) (aq bS bW t3)) (aq dO dP t4)) (n:=191) (life:={}) (g:=gF) (d:={}) (k:=559) (os:=os) (Gz v (aq es ep t) (aq bg bl t2) (aq bS bW t3) (aq dO dP t4) o);generalize SharedT.abs ⟨vQ (cY v (aq es ep t) (aq bg bl t2) (aq bS bW t3)) (aq dO dP t4),191,{},gF,{},559,os⟩=s at hz h1 h2 h3⊢;obtain ⟨gJ,gX,t5,q5,hr⟩:=YA (p:=p) (by rw [hz];decide) h1 q hl hl2 h2 q2 (by decide) hc AN (Tz k b);rw [hz,h3] at hr;exact ⟨gJ,gX,t5,q5,hr⟩
noncomputable def n26:Nat:=21+(10+((cost 40+1)+(15+(18+(cost 120+9)))))
theorem TA (p:Program) (b rest:List Stmt) (os:OsState):∀w:World,∀(es:Array (Int×Value)) (ep:Nat) (t:SetTable) (bg:Array (Int×Value)) (bl:Nat) (t2:SetTable) (bS:Array (Int×Value)) (bW:Nat) (t3:SetTable) (cs:List Nat),SS w bS t3 cs→32≤cs.length→cs.length<40→9∈cs→
  ∃dO dP t4 gJ gX t5,SS w dO t4 [9]∧SS w gJ t5 (cs.erase 9)∧
  Reach p w n26 (SharedT.abs ⟨cY w (aq es ep t) (aq bg bl t2) (aq bS bW t3),187,{},gF,{},556,os⟩) (Gu b rest)
   (SharedT.abs ⟨AO w (aq es ep t) (aq bg bl t2) (aq bS bW t3) (aq dO dP t4) (aq gJ gX t5),192,{},gF,{},560,os⟩) (restOf rest cg (.body b cg) ⟨201,0,201,23⟩ [topFrame cG]):=by
 refine tF fun w b1 b2=>?_;intro es ep t bg bl t2 bS bW t3 cs q hl hl2 hc;have rA:=aS (segGo_of (YC p b rest os w b1 b2 es bg bS ep bl bW t t2 t3));have q0:SS (aP w b1 b2) #[] (.fresh 0 0 (oU (aP w b1 b2))) []:=⟨fun e he=>by simp at he,by simp,by rfl⟩;have rT:=aS (segGo_of (turnT p b os (aP w b1 b2) (kT 0 (aP w b1 b2) p b rest os) (kT 1 (aP w b1 b2) p b rest os) (kT 2 (aP w b1 b2) p b rest os) es bg bS #[] ep bl bW 0 t t2 t3 (.fresh 0 0 (oU (aP w b1 b2)))));obtain ⟨dO,dP,t4,q4,rV⟩:=event (p:=p) (T:=fun O=>Gv (cY (aP w b1 b2) (aq es ep t) (aq bg bl t2) (aq bS bW t3)) (cH pS 1) O) (n:=189) (a:=187) (g:=gF) (K:=558) (os:=os) (lp:=qN) (pos:=DP) (fr:=frT (kT 0 (aP w b1 b2) p b rest os) (kT 1 (aP w b1 b2) p b rest os) (kT 2 (aP w b1 b2) p b rest os) b) (kx:=557) (ep:=0) (by decide) (by decide)
  (Gw _ _ _ _ _) (Gy _ _ _ _ _) ⟨_,rfl⟩ q0 (by decide) (c:=9) (by decide)
 have rF:=aS (segGo_of (YD p b os (aP w b1 b2) (kT 0 (aP w b1 b2) p b rest os) (kT 1 (aP w b1 b2) p b rest os) (kT 2 (aP w b1 b2) p b rest os) es bg bS dO ep bl bW dP t t2 t3 t4));have rC:=aS (segGo_of (YG p b rest os w b1 b2 es bg bS dO ep bl bW dP t t2 t3 t4));obtain ⟨gJ,gX,t5,q5,rO⟩:=GA p (aP w b1 b2) os (es:=es) (ep:=ep) (t:=t) (bg:=bg) (bl:=bl) (t2:=t2) (bW:=bW) (dP:=dP) q hl hl2 hc q4 (kS (aP w b1 b2) p b rest os) b;have rD:=aS (segGo_of (YH p b rest os w b1 b2 es bg bS dO gJ ep bl bW dP gX t t2 t3 t4 t5));refine ⟨dO,dP,t4,gJ,gX,t5,q4,q5,?_⟩;exact rA.trans (rT.trans (rV.trans (rF.trans (rC.trans (rO.trans rD)))))
section
noncomputable abbrev GB (b rest:List Stmt):Thread:=restOf (stN 27::stN 28::stN 29::rest) cg (.body b cg) ⟨201,0,201,23⟩ [topFrame cG]
noncomputable abbrev AP:Pos:=⟨204,10,204,26⟩
noncomputable abbrev AQ:Value:=.str ⟨#[32,9]⟩ 562
noncomputable abbrev kF:Code:=.builtin "set.update.loop" ⟨[.ref 192,.ref 193],[]⟩
noncomputable abbrev YI (k1 k2 k3:Result→Sem PySem.Fin) (b:List Stmt):List Frame:=
 [.ret k1 none false [.ref 192] (.builtin "frozenset.__new__" ⟨[.type "frozenset",AQ],[]⟩) AP [.ref 192,.ref 193],
  .ret k2 none false [] (.builtin "type.__call__" ⟨[.type "frozenset",AQ],[]⟩) AP [.builtin "frozenset.__new__",.type "frozenset",AQ,.builtin "frozenset.__new__",.type "frozenset",AQ],
  .ret k3 none false [] (.body b cg) AP [.type "frozenset",AQ],
  topFrame cG]
noncomputable abbrev Iv:Str:=⟨#[73,76,76,69,71,65,76,95,76,73,84,69,82,65,76,95,83,84,82,95,67,72,65,82,83]⟩
noncomputable abbrev Iw:Str:=⟨#[73,76,76,69,71,65,76,95,67,79,77,77,69,78,84,95,67,72,65,82,83]⟩
noncomputable abbrev DS:Str:=⟨#[84,79,77,76,95,87,83]⟩
noncomputable def kG (v:World) (O O2 O3 O4 O5:Obj):BT:=((AO v O O2 O3 O4 O5).set 3 (bindG (hashStr v Iv) (.str Iv 560) (.ref 191))).set 3 (bindG (hashStr v Iw) (.str Iw 561) (.ref 191))
noncomputable def AW (B:BT) (I O6:Obj):BT:=(B.ins 192 O6).ins 193 I
noncomputable abbrev vM (cur:Sem PySem.Fin) (k1 k2 k3:Result→Sem PySem.Fin) (b:List Stmt):Thread:=⟨cur,kF,AP,YI k1 k2 k3 b⟩
noncomputable def YJ (w:World) (p:Program) (b rest:List Stmt) (os:OsState):Thread:= ((Fast.tw10295753902157049106 Fast.tw14364793385576792824 p w 11 aJ 0 39 ⟨AO w AV AV AV AV AV,192,{},gF,{},560,os⟩ (GB b rest)).map (·.2)).getD (GB b rest)
noncomputable abbrev kW (i:Nat) (w:World) (p:Program) (b rest:List Stmt) (os:OsState):Result→Sem PySem.Fin:=Mn ((YJ w p b rest os).stack.getD i (topFrame cG))
section
variable (p:Program) (b rest:List Stmt) (os:OsState)
theorem YK (w:World) (b1 b2:Bool) (es bg bS dO gJ:Array (Int×Value)) (ep bl bW dP gX:Nat) (t t2 t3 t4 t5:SetTable):
  segGoT treeTable p (aP w b1 b2) 11 aJ 0 39 ⟨AO (aP w b1 b2) (aq es ep t) (aq bg bl t2) (aq bS bW t3) (aq dO dP t4) (aq gJ gX t5),192,{},gF,{},560,os⟩ (GB b rest)=
   some (⟨AW (kG (aP w b1 b2) (aq es ep t) (aq bg bl t2) (aq bS bW t3) (aq dO dP t4) (aq gJ gX t5)) (cH AQ 0) (aq #[] 0 (.fresh 0 0 (oU (aP w b1 b2)))),194,{},gF,{},563,os⟩,
    vM (denote treeTable kF) (kW 0 (aP w b1 b2) p b rest os) (kW 1 (aP w b1 b2) p b rest os) (kW 2 (aP w b1 b2) p b rest os) b):=by
 rw [Fast.te10295753902157049106,Fast.te14364793385576792824,Fast.te11892475500146522536];cases b1 <;>cases b2 <;>kernel_rfl
theorem Lx (v:World) (k1 k2 k3:Result→Sem PySem.Fin) (es bg bS dO gJ vS:Array (Int×Value)) (ep bl bW dP gX vU:Nat) (t t2 t3 t4 t5 t6:SetTable):
  segGoT treeTable p v 11 aJ 0 10 ⟨AW (kG v (aq es ep t) (aq bg bl t2) (aq bS bW t3) (aq dO dP t4) (aq gJ gX t5)) (cH AQ 0) (aq vS vU t6),194,{},gF,{},563,os⟩ (vM (denote treeTable kF) k1 k2 k3 b)=
   some (⟨AW (kG v (aq es ep t) (aq bg bl t2) (aq bS bW t3) (aq dO dP t4) (aq gJ gX t5)) (cH AQ 1) (aq vS vU t6),194,{},gF,{},564,os⟩,vM ((setAdd 192 (.str ⟨#[32]⟩ 563)).bind fun _=>again kF) k1 k2 k3 b):=by
 rw [Fast.te10295753902157049106,Fast.te14364793385576792824,Fast.te11892475500146522536,Fast.te5518019106960326183,Fast.te12377390311714414960,PySem.W.R.bindR_eq];kernel_rfl
theorem Ly (v:World) (k1 k2 k3:Result→Sem PySem.Fin) (es bg bS dO gJ vS:Array (Int×Value)) (ep bl bW dP gX vU:Nat) (t t2 t3 t4 t5 t6:SetTable):
  segGoT treeTable p v 11 aJ 0 10 ⟨AW (kG v (aq es ep t) (aq bg bl t2) (aq bS bW t3) (aq dO dP t4) (aq gJ gX t5)) (cH AQ 1) (aq vS vU t6),194,{},gF,{},565,os⟩ (vM (denote treeTable kF) k1 k2 k3 b)=
   some (⟨AW (kG v (aq es ep t) (aq bg bl t2) (aq bS bW t3) (aq dO dP t4) (aq gJ gX t5)) (cH AQ 2) (aq vS vU t6),194,{},gF,{},566,os⟩,vM ((setAdd 192 (.str ⟨#[9]⟩ 565)).bind fun _=>again kF) k1 k2 k3 b):=by
 rw [Fast.te10295753902157049106,Fast.te14364793385576792824,Fast.te11892475500146522536,Fast.te5518019106960326183,Fast.te12377390311714414960,PySem.W.R.bindR_eq];kernel_rfl
end
noncomputable def YL (B:BT) (O6:Obj):BT:=((AW B (cH .none 2) O6).ins 194 j4).ins 195 (vI 194)
noncomputable abbrev thW (w:World) (p:Program) (b rest:List Stmt) (os:OsState):Thread:=vM eG (kW 0 w p b rest os) (kW 1 w p b rest os) (kW 2 w p b rest os) b
noncomputable def Lz (v:World) (O O2 O3 O4 O5 O6:Obj):BT:=(YL (kG v O O2 O3 O4 O5) O6).set 3 (bindG (hashStr v DS) (.str DS 567) (.ref 192))
section
variable (p:Program) (b rest:List Stmt) (os:OsState)
theorem YM (v:World) (k1 k2 k3:Result→Sem PySem.Fin) (es bg bS dO gJ vS:Array (Int×Value)) (ep bl bW dP gX vU:Nat) (t t2 t3 t4 t5 t6:SetTable):
  segGoT treeTable p v 11 aJ 0 15 ⟨AW (kG v (aq es ep t) (aq bg bl t2) (aq bS bW t3) (aq dO dP t4) (aq gJ gX t5)) (cH AQ 2) (aq vS vU t6),194,{},gF,{},567,os⟩ (vM (denote treeTable kF) k1 k2 k3 b)=
   some (⟨YL (kG v (aq es ep t) (aq bg bl t2) (aq bS bW t3) (aq dO dP t4) (aq gJ gX t5)) (aq vS vU t6),196,{},gF,{},567,os⟩,vM eG k1 k2 k3 b):=by
 rw [Fast.te10295753902157049106,Fast.te14364793385576792824,Fast.te11892475500146522536];kernel_rfl
theorem zq (w:World) (O O2 O3 O4 O5 I O6:Obj):(AW (kG w O O2 O3 O4 O5) I O6).get 192=some O6:=by kernel_rfl
theorem zu (w:World) (O O2 O3 O4 O5 I O6 O':Obj):(AW (kG w O O2 O3 O4 O5) I O6).set 192 (fun _=>O')=AW (kG w O O2 O3 O4 O5) I O':=by kernel_rfl
theorem YN (w:World) (b1 b2:Bool) (es bg bS dO gJ vS:Array (Int×Value)) (ep bl bW dP gX vU:Nat) (t t2 t3 t4 t5 t6:SetTable):
  segGoT treeTable p (aP w b1 b2) 11 aJ 0 18 ⟨YL (kG (aP w b1 b2) (aq es ep t) (aq bg bl t2) (aq bS bW t3) (aq dO dP t4) (aq gJ gX t5)) (aq vS vU t6),196,{},gF,{},567,os⟩ (thW (aP w b1 b2) p b rest os)=
   some (⟨Lz (aP w b1 b2) (aq es ep t) (aq bg bl t2) (aq bS bW t3) (aq dO dP t4) (aq gJ gX t5) (aq vS vU t6),196,{},gF,{},568,os⟩,restOf rest cg (.body b cg) ⟨204,0,204,7⟩ [topFrame cG]):=by
 rw [Fast.te10295753902157049106,Fast.te14364793385576792824];cases b1 <;>cases b2 <;>kernel_rfl
end
noncomputable def n29:Nat:=39+(10+((cost 40+1)+(10+((cost 40+1)+(15+18)))))
theorem TF (p:Program) (b rest:List Stmt) (os:OsState):∀w:World,∀(es:Array (Int×Value)) (ep:Nat) (t:SetTable) (bg:Array (Int×Value)) (bl:Nat) (t2:SetTable) (bS:Array (Int×Value)) (bW:Nat) (t3:SetTable) (dO:Array (Int×Value)) (dP:Nat) (t4:SetTable) (gJ:Array (Int×Value)) (gX:Nat) (t5:SetTable),
  ∃vS vU t6,SS w vS t6 [32,9]∧
  Reach p w n29 (SharedT.abs ⟨AO w (aq es ep t) (aq bg bl t2) (aq bS bW t3) (aq dO dP t4) (aq gJ gX t5),192,{},gF,{},560,os⟩) (GB b rest)
   (SharedT.abs ⟨Lz w (aq es ep t) (aq bg bl t2) (aq bS bW t3) (aq dO dP t4) (aq gJ gX t5) (aq vS vU t6),196,{},gF,{},568,os⟩) (restOf rest cg (.body b cg) ⟨204,0,204,7⟩ [topFrame cG]):=by
 refine tF fun w b1 b2=>?_;intro es ep t bg bl t2 bS bW t3 dO dP t4 gJ gX t5;have rA:=aS (segGo_of (YK p b rest os w b1 b2 es bg bS dO gJ ep bl bW dP gX t t2 t3 t4 t5));have q0:SS (aP w b1 b2) #[] (.fresh 0 0 (oU (aP w b1 b2))) []:=⟨fun e he=>by simp at he,by simp,by rfl⟩;have rT:=aS (segGo_of (Lx p b os (aP w b1 b2) (kW 0 (aP w b1 b2) p b rest os) (kW 1 (aP w b1 b2) p b rest os) (kW 2 (aP w b1 b2) p b rest os) es bg bS dO gJ #[] ep bl bW dP gX 0 t t2 t3 t4 t5 (.fresh 0 0 (oU (aP w b1 b2)))));obtain ⟨vS,vU,t6,q6,rV⟩:=event (p:=p) (T:=fun O=>AW (kG (aP w b1 b2) (aq es ep t) (aq bg bl t2) (aq bS bW t3) (aq dO dP t4) (aq gJ gX t5)) (cH AQ 1) O) (n:=194) (a:=192) (g:=gF) (K:=564) (os:=os) (lp:=kF) (pos:=AP) (fr:=YI (kW 0 (aP w b1 b2) p b rest os) (kW 1 (aP w b1 b2) p b rest os) (kW 2 (aP w b1 b2) p b rest os) b) (kx:=563) (ep:=0) (by decide) (by decide)
  (zq _ _ _ _ _ _ _) (zu _ _ _ _ _ _ _) ⟨_,rfl⟩ q0 (by decide) (c:=32) (by decide)
 have rT2:=aS (segGo_of (Ly p b os (aP w b1 b2) (kW 0 (aP w b1 b2) p b rest os) (kW 1 (aP w b1 b2) p b rest os) (kW 2 (aP w b1 b2) p b rest os) es bg bS dO gJ vS ep bl bW dP gX vU t t2 t3 t4 t5 t6));obtain ⟨YO,YQ,t7,q7,rV2⟩:=event (p:=p) (T:=fun O=>AW (kG (aP w b1 b2) (aq es ep t) (aq bg bl t2) (aq bS bW t3) (aq dO dP t4) (aq gJ gX t5)) (cH AQ 2) O) (n:=194) (a:=192) (g:=gF) (K:=566) (os:=os) (lp:=kF) (pos:=AP) (fr:=YI (kW 0 (aP w b1 b2) p b rest os) (kW 1 (aP w b1 b2) p b rest os) (kW 2 (aP w b1 b2) p b rest os) b) (kx:=565) (ep:=vU) (by decide) (by decide)
  (zq _ _ _ _ _ _ _) (zu _ _ _ _ _ _ _) ⟨_,rfl⟩ q6 (by decide) (c:=9) (by decide)
 have rF:=aS (segGo_of (YM p b os (aP w b1 b2) (kW 0 (aP w b1 b2) p b rest os) (kW 1 (aP w b1 b2) p b rest os) (kW 2 (aP w b1 b2) p b rest os) es bg bS dO gJ YO ep bl bW dP gX YQ t t2 t3 t4 t5 t7));have rD:=aS (segGo_of (YN p b rest os w b1 b2 es bg bS dO gJ YO ep bl bW dP gX YQ t t2 t3 t4 t5 t7));refine ⟨YO,YQ,t7,q7,?_⟩;exact rA.trans (rT.trans (rV.trans (rT2.trans (rV2.trans (rF.trans rD)))))
end
noncomputable abbrev oW:List Stmt:=PySem.Challenge.pw_ik0202_01.main.body.drop 30
noncomputable abbrev TG (b:List Stmt):Thread:=restOf oW cg (.body b cg) ⟨204,0,204,7⟩ [topFrame cG]
structure Sets where
 e1:Array (Int×Value)
 p1:Nat
 t1:SetTable
 e2:Array (Int×Value)
 p2:Nat
 t2:SetTable
 e3:Array (Int×Value)
 p3:Nat
 t3:SetTable
 e4:Array (Int×Value)
 p4:Nat
 t4:SetTable
 e5:Array (Int×Value)
 p5:Nat
 t5:SetTable
 e6:Array (Int×Value)
 p6:Nat
 t6:SetTable
noncomputable abbrev Sets.tree (w:World) (z:Sets):BT:=Lz w (aq z.e1 z.p1 z.t1) (aq z.e2 z.p2 z.t2) (aq z.e3 z.p3 z.t3) (aq z.e4 z.p4 z.t4) (aq z.e5 z.p5 z.t5) (aq z.e6 z.p6 z.t6)
noncomputable abbrev YR (w:World) (os:OsState) (z:Sets):SharedT:=⟨z.tree w,196,{},gF,{},568,os⟩
noncomputable def sF (w:World) (p:Program) (b:List Stmt) (os:OsState) (z:Sets):SharedT:= ((Fast.tw10295753902157049106 Fast.tw14364793385576792824 p w 11 aJ 0 784 (YR w os z) (TG b)).map (·.1)).getD (YR w os z)
theorem YS (p:Program) (b:List Stmt) (os:OsState) (w:World) (z:Sets):
  segGoT treeTable p w 11 aJ 0 784 (YR w os z) (TG b)=some (sF w p b os z,⟨.pure (.done (.ret .none)),.builtin "claim.caller" {},cG,[]⟩):=by
 rw [Fast.te10295753902157049106,Fast.te14364793385576792824];kernel_rfl
section
noncomputable def qV:Program:={PySem.Challenge.pw_ik0202_01 with main:={PySem.Challenge.pw_ik0202_01.main with body:=[stN 0,stN 2,stN 3,stN 4,stN 5,stN 7,stN 9,stN 11,stN 12,stN 14,stN 16,stN 18,stN 19,stN 20,stN 21,stN 22,stN 23,stN 25,stN 26,stN 27,stN 28,stN 29,stN 30,stN 31,stN 32,stN 33,stN 34,stN 35,stN 37,stN 38,stN 39,stN 40,stN 41,stN 42,stN 43,stN 44,stN 45,stN 46,stN 47,stN 48,stN 49,stN 50,stN 51]}}
noncomputable def cZ:List Str:=["ASCII_CTRL","ILLEGAL_BASIC_STR_CHARS","ILLEGAL_LITERAL_STR_CHARS","ILLEGAL_COMMENT_CHARS","TOML_WS"]
section
variable (p:Program) (b:List Stmt) (os:OsState) (w:World) (z:Sets)
theorem TH:seen ((recsOf qV).map (·.name)) (ownsOf qV) [] {(sF w p b os z).abs with gens:=#[]}=expectedOf qV:=by unfold expectedOf;rw [Fast.te5160383126252970620,Fast.te3399658132070893891,Fast.te5991557255702980513];kernel_rfl
theorem TJ:(sF w p b os z).abs.heap.bltView=bltViewBooted:=by kernel_rfl
theorem LB:(sF w p b os z).abs.heap.keysOk (looseW qV cZ) ((recsOf qV).map (·.name)) ((litsOf qV).map (·.1)) ((clssOf qV (looseW qV cZ)).map (·.name))=true:=by rw [Fast.te3399658132070893891,Fast.te821141287760084731,Fast.te7409074990110511671,Fast.te13664370479719496447,Fast.te10880121769531294198];kernel_rfl
theorem LC:(sF w p b os z).abs.heap.accountedOkI []=true:=by rw [Fast.te14722251495701143533];kernel_rfl
theorem DT:(sF w p b os z).abs.heap.isNs mainGlobals=true:=by kernel_rfl
theorem LD:(sF w p b os z).abs.heap.isNs builtinsNs=true:=by kernel_rfl
theorem LF:tablesOk qV (sF w p b os z).abs.heap=true:=by rw [Fast.te10994771534591457954];kernel_rfl
theorem LG:(!leftWithCleanup (sF w p b os z).abs.gens)=true:=by kernel_rfl
theorem TL:tabsOk qV (sF w p b os z).abs=true:=by rw [Fast.te479339242167458305];kernel_rfl
theorem TM:pinSeenD qV (drecsOf qV) (sF w p b os z).abs=pinGoodD (drecsOf qV):=by rw [Fast.te16090120013241838585,Fast.te3247288618530077131];kernel_rfl
theorem TN:plainSeenE qV (looseW qV cZ) (sF w p b os z).abs=plainGoodE qV (looseW qV cZ):=by rw [Fast.te2386780881361962483,Fast.te821141287760084731];kernel_rfl
theorem TP:plainSeenD qV cZ (sF w p b os z).abs=plainGoodD qV cZ:=by rw [Fast.te11698064438423848299];kernel_rfl
theorem TQ:wideSeen qV (sF w p b os z).abs=wideGood qV:=by rw [Fast.te7317090234206586261];kernel_rfl
theorem TS:clsSeenW qV cZ (sF w p b os z).abs=clsGoodW qV cZ:=by rw [Fast.te7369524293546568484];kernel_rfl
end
end
section
noncomputable abbrev eS:Program:=PySem.Challenge.pw_ik0202_01
noncomputable abbrev bG:List Stmt:=behindTheImports eS
theorem LH:importedModules eS.main.body=[]:=by rw [Fast.te5923862056798008813];kernel_rfl
theorem GC:bG=K1++(Tc::Lw::stN 27::stN 28::stN 29::oW):=by kernel_rfl
theorem LI:opening eS=plainProg eS.main.scope.names:=by kernel_rfl
theorem LJ (s:Shared):fenceModules? eS s=some s:=by
 unfold fenceModules?;rw [LH];have h:eS.main.body.any namesNumpy=false:=by kernel_rfl
 rw [h];rfl
section
variable (w:World)
theorem TU:(boot_heap w.params).isNs mainGlobals=true∧(boot_heap w.params).objs.size=11∧(boot_heap w.params).nsMap mainGlobals "__annotations__"=aJ:=by refine ⟨by kernel_rfl,by kernel_rfl,?_⟩;rw [Fast.te8920871248978507458];kernel_rfl
noncomputable def tr0:BT:=((((((((((BT.nil.ins 0 (boot_o_0 w.params)).ins 1 (boot_o_1 w.params)).ins 2 (boot_o_2 w.params)).ins 3 (boot_o_3 w.params)).ins 4 (boot_o_4 w.params)).ins 5 (boot_o_5 w.params)).ins 6 (boot_o_6 w.params)).ins 7 (boot_o_7 w.params)).ins 8 (boot_o_8 w.params)).ins 9 (boot_o_9 w.params)).ins 10 (boot_o_10 w.params)
theorem GD (os:OsState):SharedT.abs ⟨tr0 w,11,{},#[],{},181,os⟩=⟨boot_heap w.params,Array.mk [],boot_drawn,boot_toks,os⟩:=by kernel_rfl
theorem YT (p:Program) (hp:p=eS) (os:OsState):segGoT treeTable p w 11 aJ 0 12 ⟨tr0 w,11,{},#[],{},181,os⟩ (topStub p)=
  some (⟨WZ w.params,15,{},#[],{},187,os⟩,⟨denote treeTable (.body bG cg),.body bG cg,cG,[topFrame cG]⟩):=by
 subst hp;rw [Fast.te10295753902157049106,Fast.te14364793385576792824,Fast.te11892475500146522536];kernel_rfl
theorem LK (p:Program) (s:Shared) (b:List Stmt) (hb:b=bG) (c:Code) (pos:Pos):segRun treeTable p w 11 aJ 1 1 s (blockOf b cg c pos [topFrame cG])=some (.next,s,c,pos):=by subst hb;kernel_rfl
end
end
section
section
variable (b:List Stmt) (os:OsState) (w:World) (z:Sets)
theorem TV:staticsOk [] (boot_heap w.params) (sF w eS b os z).abs.heap=true:=by unfold staticsOk;rw [Fast.te8920871248978507458];kernel_rfl
theorem TX:namesBound eS (sF w eS b os z).abs.heap=true:=by kernel_rfl
theorem TY:gensDone (sF w eS b os z).abs=true:=by kernel_rfl
theorem TZ:laidKept (boot_heap w.params) (sF w eS b os z).abs.heap=true:=by unfold laidKept;rw [Fast.te8920871248978507458];kernel_rfl
end
structure Sets.Ok (w:World) (z:Sets):Prop where
 q3:SS w z.e3 z.t3 (List.range 32++[127])
 q5:SS w z.e5 z.t5 ((List.range 32++[127]).erase 9)
 q6:SS w z.e6 z.t6 [32,9]
noncomputable def runM:Nat:=12+(1+(1062+(n25+(n26+(n29+(784+1))))))
theorem GF (w:World) (os:OsState):∃z:Sets,z.Ok w∧topRun treeTable eS w 11 aJ runM ⟨boot_heap w.params,Array.mk [],boot_drawn,boot_toks,os⟩ (topStub eS)=some (sF w eS bG os z).abs:=by obtain ⟨e1,p1,t1,e2,p2,t2,e3,p3,t3,q1,q2,q3,r25⟩:=Tw eS bG (Lw::stN 27::stN 28::stN 29::oW) os w;obtain ⟨e4,p4,t4,e5,p5,t5,q4,q5,r26⟩:=TA eS bG (stN 27::stN 28::stN 29::oW) os w e1 p1 t1 e2 p2 t2 e3 p3 t3 _ q3 (by decide) (by decide) (by decide);obtain ⟨e6,p6,t6,q6,r29⟩:=TF eS bG oW os w e1 p1 t1 e2 p2 t2 e3 p3 t3 e4 p4 t4 e5 p5 t5;refine ⟨⟨e1,p1,t1,e2,p2,t2,e3,p3,t3,e4,p4,t4,e5,p5,t5,e6,p6,t6⟩,⟨q3,q5,q6⟩,?_⟩;have rF:=aS (segGo_of (YS eS bG os w ⟨e1,p1,t1,e2,p2,t2,e3,p3,t3,e4,p4,t4,e5,p5,t5,e6,p6,t6⟩));have last:=r25 _ _ (r26 _ _ (r29 _ _ (rF 1 (sF w eS bG os ⟨e1,p1,t1,e2,p2,t2,e3,p3,t3,e4,p4,t4,e5,p5,t5,e6,p6,t6⟩).abs rfl)));have hc:=K2 eS bG _ os w _ _ last;rw [←GC] at hc;have hb:=piece_block (LK w eS _ bG rfl _ _) hc;have r0:=aS (segGo_of (YT w eS rfl os));rw [GD] at r0;exact r0 _ _ hb
noncomputable def kH:Nat:=runM+600
theorem zv:∀w:World,∃s,openEnds treeTable eS w kH=some s∧openSeen qV cZ (importedModules eS.main.body) (fun _=>true) false s=openGood qV cZ∧∃os z,Sets.Ok w z∧s=(sF w eS bG os z).abs:=by
 intro w;obtain ⟨⟨h,gs,d,k,os⟩,e,e'⟩:=Option.map_eq_some_iff.mp (boot_open (p:=eS) (N:=kH) LI (Nat.ble_eq.mpr (by unfold kH;exact Rd)) LJ w);obtain ⟨rfl,rfl,rfl,rfl⟩:h=boot_heap w.params∧gs=Array.mk []∧d=boot_drawn∧k=boot_toks:=by simpa using e'
 obtain ⟨z,hz,hr⟩:=GF w os;obtain ⟨z1,z2,z3⟩:=TU w;have r:=topRun_mono 600 _ _ _ _ hr;have t:topFrom treeTable eS w kH ⟨boot_heap w.params,Array.mk [],boot_drawn,boot_toks,os⟩=some (sF w eS bG os z).abs:=by unfold topFrom;dsimp only;rw [z1,z2,z3];show (match true with|true=>_|false=>none)=_;dsimp only;show Option.bind (topRun treeTable eS w 11 aJ kH _ (topStub eS)) _=_;rw [show kH=runM+600 from rfl,r,LH];dsimp only [Option.bind_some];rw [TV,TX,TY,TZ];rfl
 refine ⟨_,by unfold openEnds;rw [e];exact t,?_,os,z,hz,rfl⟩;unfold openSeen openGood;rw [LH,TH,TJ,LB,LC,DT,LD,LF,TL,TM,TN,TP,TQ,TS];have:(if false=true then (sF w eS bG os z).abs.gens.size==0 else !leftWithCleanup (sF w eS bG os z).abs.gens)=true:=by rw [if_neg (by decide)];exact LG eS bG os w z
 rw [this];rfl
end
section
noncomputable def LL (f:Nat):Nat:=if f<4 then f+1 else if f=4 then 7 else if f<15 then f+4 else f+5
noncomputable def YU (f:Nat):Bool:=match (recsOf qV)[LL f]?,ai f with
 |some r,some d=>r.name==fn f&&E4 d r.body r.scope
 |_,_=>false
theorem GG:(List.range 30).all YU=true:=by unfold YU;rw [Fast.te3399658132070893891];kernel_rfl
noncomputable def LM (f:Nat):Arguments:=(((recsOf qV)[LL f]?).map (·.params)).getD default
@[elab_as_elim] theorem gQ {P:List Value→Prop} {l:List Value} {n:Nat} (h:l.length=n+1) (k:∀a r,r.length=n→P (a::r)):P l:=by
 cases l with
 |nil=>cases h
 |cons a r=>exact k a r (Nat.succ.inj h)
@[elab_as_elim] theorem gR {P:List Value→Prop} {l:List Value} (h:l.length=0) (k:P []):P l:=by rw [List.length_eq_zero_iff.mp h];exact k
section
variable {fd:FuncData} {io:Bool} {b:List PS}
theorem LN (h:bindArgs fd ⟨[],[]⟩=pure []):Binds ⟨[],none,[],io,b⟩ fd:=fun vs ws rest h1 h2 h3=>by rw [h3 rfl];refine gR h2 ?_;refine gR h1 ?_;exact h
theorem cz (h:∀v,bindArgs fd ⟨[v],[]⟩=pure [(nm x,v)]):Binds ⟨[x],none,[],io,b⟩ fd:=fun vs ws rest h1 h2 h3=>by rw [h3 rfl];refine gR h2 ?_;refine gQ h1 fun v r h1=>?_;refine gR h1 ?_;exact h v
theorem iQ (h:∀v u,bindArgs fd ⟨[v,u],[]⟩=pure [(nm x,v),(nm y,u)]):Binds ⟨[x,y],none,[],io,b⟩ fd:=fun vs ws rest h1 h2 h3=>by rw [h3 rfl];refine gR h2 ?_;refine gQ h1 fun v r h1=>?_;refine gQ h1 fun u r h1=>?_;refine gR h1 ?_;exact h v u
theorem DU {z:Nat} (h:∀v u t,bindArgs fd ⟨[v,u,t],[]⟩=pure [(nm x,v),(nm y,u),(nm z,t)]):Binds ⟨[x,y,z],none,[],io,b⟩ fd:=fun vs ws rest h1 h2 h3=>by rw [h3 rfl];refine gR h2 ?_;refine gQ h1 fun v r h1=>?_;refine gQ h1 fun u r h1=>?_;refine gQ h1 fun t r h1=>?_;refine gR h1 ?_;exact h v u t
theorem GH {z p q:Nat} (h:∀v u t r s,bindArgs fd ⟨[v,u,t],[(nm p,r),(nm q,s)]⟩=pure [(nm x,v),(nm y,u),(nm z,t),(nm p,r),(nm q,s)]):Binds ⟨[x,y,z],none,[p,q],io,b⟩ fd:=fun vs ws rest h1 h2 h3=>by rw [h3 rfl];refine gQ h2 fun p r h2=>?_;refine gQ h2 fun s r h2=>?_;refine gR h2 ?_;refine gQ h1 fun v r h1=>?_;refine gQ h1 fun u r h1=>?_;refine gQ h1 fun t r h1=>?_;refine gR h1 ?_;exact h v u t p s
theorem GI (h:∀v rest,bindArgs fd ⟨v::rest,[]⟩=newTuple rest>>=fun t=>pure [(nm x,v),(nm y,t)]):Binds ⟨[x],some y,[],io,b⟩ fd:=fun vs ws rest h1 h2 h3=>by refine gR h2 ?_;refine gQ h1 fun v r h1=>?_;refine gR h1 ?_;exact h v rest
end
noncomputable abbrev BD (d:FD) (f:Nat):Prop:=∀n b sc pm code doc,Binds d (docDef n (LM f) b sc pm code doc)
theorem bFs:∀f d,ai f=some d→BD d f
 |0,_,h=>os (P:=(BD · 0)) h fun _ _ _ _ _ _=>iQ fun _ _=>by kernel_rfl
 |1,_,h=>os (P:=(BD · 1)) h fun _ _ _ _ _ _=>cz fun _=>by kernel_rfl
 |2,_,h=>os (P:=(BD · 2)) h fun _ _ _ _ _ _=>DU fun _ _ _=>by kernel_rfl
 |3,_,h=>os (P:=(BD · 3)) h fun _ _ _ _ _ _=>iQ fun _ _=>by kernel_rfl
 |4,_,h=>os (P:=(BD · 4)) h fun _ _ _ _ _ _=>cz fun _=>by kernel_rfl
 |5,_,h=>os (P:=(BD · 5)) h fun _ _ _ _ _ _=>cz fun _=>by kernel_rfl
 |6,_,h=>os (P:=(BD · 6)) h fun _ _ _ _ _ _=>GI fun v r=>by cases r <;>kernel_rfl
 |7,_,h=>os (P:=(BD · 7)) h fun _ _ _ _ _ _=>cz fun _=>by kernel_rfl
 |8,_,h=>os (P:=(BD · 8)) h fun _ _ _ _ _ _=>cz fun _=>by kernel_rfl
 |9,_,h=>os (P:=(BD · 9)) h fun _ _ _ _ _ _=>cz fun _=>by kernel_rfl
 |10,_,h=>os (P:=(BD · 10)) h fun _ _ _ _ _ _=>cz fun _=>by kernel_rfl
 |11,_,h=>os (P:=(BD · 11)) h fun _ _ _ _ _ _=>DU fun _ _ _=>by kernel_rfl
 |12,_,h=>os (P:=(BD · 12)) h fun _ _ _ _ _ _=>GH fun _ _ _ _ _=>by kernel_rfl
 |13,_,h=>os (P:=(BD · 13)) h fun _ _ _ _ _ _=>iQ fun _ _=>by kernel_rfl
 |14,_,h=>os (P:=(BD · 14)) h fun _ _ _ _ _ _=>iQ fun _ _=>by kernel_rfl
 |15,_,h=>os (P:=(BD · 15)) h fun _ _ _ _ _ _=>cz fun _=>by kernel_rfl
 |16,_,h=>os (P:=(BD · 16)) h fun _ _ _ _ _ _=>cz fun _=>by kernel_rfl
 |17,_,h=>os (P:=(BD · 17)) h fun _ _ _ _ _ _=>cz fun _=>by kernel_rfl
 |18,_,h=>os (P:=(BD · 18)) h fun _ _ _ _ _ _=>iQ fun _ _=>by kernel_rfl
 |19,_,h=>os (P:=(BD · 19)) h fun _ _ _ _ _ _=>cz fun _=>by kernel_rfl
 |20,_,h=>os (P:=(BD · 20)) h fun _ _ _ _ _ _=>cz fun _=>by kernel_rfl
 |21,_,h=>os (P:=(BD · 21)) h fun _ _ _ _ _ _=>iQ fun _ _=>by kernel_rfl
 |22,_,h=>os (P:=(BD · 22)) h fun _ _ _ _ _ _=>iQ fun _ _=>by kernel_rfl
 |23,_,h=>os (P:=(BD · 23)) h fun _ _ _ _ _ _=>cz fun _=>by kernel_rfl
 |24,_,h=>os (P:=(BD · 24)) h fun _ _ _ _ _ _=>cz fun _=>by kernel_rfl
 |25,_,h=>os (P:=(BD · 25)) h fun _ _ _ _ _ _=>cz fun _=>by kernel_rfl
 |26,_,h=>os (P:=(BD · 26)) h fun _ _ _ _ _ _=>cz fun _=>by kernel_rfl
 |27,_,h=>os (P:=(BD · 27)) h fun _ _ _ _ _ _=>LN (by kernel_rfl)
 |28,_,h=>os (P:=(BD · 28)) h fun _ _ _ _ _ _=>iQ fun _ _=>by kernel_rfl
 |29,_,h=>os (P:=(BD · 29)) h fun _ _ _ _ _ _=>cz fun _=>by kernel_rfl
 |_+30,_,h=>no h
end
section
noncomputable def YV (w:World) (h:Heap):Prop:=∃os z,Sets.Ok w z∧Kp (sF w eS bG os z).abs.heap h
section
variable (p:Program) (b:List Stmt) (os:OsState) (w:World) (z:Sets)
theorem T3:(sF w p b os z).n=333:=by kernel_rfl
theorem LO:(sF w p b os z).tree.get 191=some (aq z.e5 z.p5 z.t5):=by kernel_rfl
theorem LP:(sF w p b os z).tree.get 192=some (aq z.e6 z.p6 z.t6):=by kernel_rfl
theorem T4:(sF w p b os z).abs.heap.nsMap mainGlobals (gn 0)=some (.ref 192):=by rw [Fast.te8920871248978507458];kernel_rfl
theorem T5:(sF w p b os z).abs.heap.nsMap mainGlobals (gn 1)=some (.ref 191):=by rw [Fast.te8920871248978507458];kernel_rfl
theorem T6:(sF w p b os z).abs.heap.nsMap mainGlobals (gn 2)=none:=by rw [Fast.te8920871248978507458];kernel_rfl
theorem T7:(sF w p b os z).abs.heap.nsMap mainGlobals (gn 3)=none:=by rw [Fast.te8920871248978507458];kernel_rfl
theorem T8:(sF w p b os z).abs.heap.nsMap mainGlobals (gn 4)=some (.ref 191):=by rw [Fast.te8920871248978507458];kernel_rfl
theorem T9 (x:BI):(sF w p b os z).abs.heap.nsMap mainGlobals (nN x)=none:=by rw [Fast.te8920871248978507458];cases x <;>kernel_rfl
theorem Ua:(sF w p b os z).abs.heap.nsMap mainGlobals (Str.ofString "tuple")=none∧(sF w p b os z).abs.heap.nsMap mainGlobals (Str.ofString "map")=none∧(sF w p b os z).abs.heap.nsMap mainGlobals (Str.ofString "enumerate")=none:=by rw [Fast.te8920871248978507458];refine ⟨?_,?_,?_⟩ <;>kernel_rfl
end
theorem zw {p:Program} (hg:h.get? a=some (aq es ep t)) (q:SS w es t cs) {k:Nat} (hk:∀c,aQ k c=decide (c∈cs)):
  FrozAt (PySem.strKind p w) h a (wD k) cs.length:=by
 refine ⟨es,ep,t,hg,fun e he=>?_,fun x=>?_,q.size,q.ft⟩
 ·obtain ⟨tk,e'⟩:=q.el.key he;have e1:e.1=hashStr w (aC [keyOf e]):=congrArg Prod.fst e';have e2:e.2=.str (aC [keyOf e]) tk:=congrArg Prod.snd e';refine ⟨⟨aC [keyOf e],?_,e1⟩,?_⟩
  ·rw [e2];simp [PySem.strKind,Value.isStrOf]
  ·rw [e2];rfl
 ·constructor
  ·intro hx;unfold wD at hx;split at hx
   ·rename_i c hc;rw [hk c] at hx;have hm:c∈cs:=of_decide_eq_true hx;obtain ⟨e,he,ek⟩:=List.mem_map.mp (q.pm.mem_iff.mpr hm);refine ⟨e,he,?_⟩;obtain ⟨tk,e'⟩:=q.el.key he;have e2:e.2=.str (aC [keyOf e]) tk:=congrArg Prod.snd e';rw [e2,ek];have:x=aC [c]:=Str.ext' (by rw [←Array.toList_inj];simpa using hc);rw [this];simp [PySem.strKind,Value.isStrOf]
   ·cases hx
  ·rintro ⟨e,he,hp⟩;obtain ⟨tk,e'⟩:=q.el.key he;obtain ⟨lg,e2⟩:=Value.isStrOf_shape hp;rw [e'] at e2;injection e2 with e2 _;rw [←e2];show aQ k (keyOf e)=true;rw [hk];exact decide_eq_true (q.pm.mem_iff.mp (List.mem_map.mpr ⟨e,he,rfl⟩))
theorem YW (c:Nat):aQ 0 c=decide (c∈[32,9]):=by
 simp [aQ]
 by_cases h1:c=32 <;>by_cases h2:c=9 <;>simp [h1,h2]
theorem YX (k:Nat) (c:Nat):aQ (k+1) c=decide (c∈(List.range 32++[127]).erase 9):=by
 have hn:(List.range 32++[127]).Nodup:=by decide+kernel
 rw [hn.erase_eq_filter,Bool.eq_iff_iff];simp only [aQ,Bool.or_eq_true,Bool.and_eq_true,decide_eq_true_eq,bne_iff_ne,ne_eq,beq_iff_eq,List.mem_filter,List.mem_append,List.mem_range,List.mem_singleton];exact ⟨fun h=>h.elim (fun h=>⟨.inl h.1,h.2⟩) fun h=>⟨.inr h,by rw [h];decide⟩,fun h=>h.1.elim (fun q=>.inl ⟨q,h.2⟩) .inr⟩
noncomputable abbrev Xm (w:World) (h:Heap) (mg mb:Str→Option Value):Cx:=⟨eS,w,h,mg,mb,fun k=>if k=0 then 192 else 191⟩
section
variable {w:World} {h:Heap} {mg mb:Str→Option Value} {mean:ExcName→Option Value} {lo:List Str}
theorem Ub (T:Top qV lo mean mg mb h) {os:OsState} {z:Sets} (hk:Kp (sF w eS bG os z).abs.heap h):mg=(sF w eS bG os z).abs.heap.nsMap mainGlobals:=by have h1:=(Heap.Ns.of_isNs (DT eS bG os w z)).keeps hk;rw [T.g.eq_nsMap,←h1.eq_nsMap]
theorem rec_of (hf:f<30) {P:Prop} (k:∀r d,r∈recsOf qV→ai f=some d→r.name=fn f→E4 d r.body r.scope=true→r.params=LM f→P):P:=by
 have:=List.all_eq_true.mp GG f (List.mem_range.mpr hf);unfold YU at this;cases h1:(recsOf qV)[LL f]? with
 |none=>rw [h1] at this;exact nf this
 |some r=>
  cases h2:ai f with
  |none=>rw [h1,h2] at this;exact nf this
  |some d=> rw [h1,h2] at this;exact ba this fun a b=>k r d (List.mem_of_getElem? h1) h2 (eq_of_beq a) b (by unfold LM;rw [h1];rfl)
noncomputable abbrev GV (w:World) (h:Heap) (mg mb:Str→Option Value) (g:Nat) (v:V):Prop:=∃val,(mg (gn g)=some val∨(mg (gn g)=none∧mb (gn g)=some val))∧RV (Xm w h mg mb) h [] v val
section
variable {z:Sets} {y:OsState} (em:mg=(sF w eS bG y z).abs.heap.nsMap mainGlobals) (bne:∀x:Str,x≠"__name__"→mb x=bootBuiltins x)
include em bne
theorem Uc:∀g v,LV g=some v→GV w h mg mb g v
 |0,_,e=>os (P:=GV w h mg mb 0) e ⟨.ref 192,.inl ((congrFun em _).trans (T4 ..)),rfl⟩
 |1,_,e=>os (P:=GV w h mg mb 1) e ⟨.ref 191,.inl ((congrFun em _).trans (T5 ..)),rfl⟩
 |2,_,e=>os (P:=GV w h mg mb 2) e ⟨.type "str",.inr ⟨(congrFun em _).trans (T6 ..),(bne _ (by decide+kernel)).trans (by kernel_rfl)⟩,rfl⟩
 |3,_,e=>os (P:=GV w h mg mb 3) e ⟨.type "bytes",.inr ⟨(congrFun em _).trans (T7 ..),(bne _ (by decide+kernel)).trans (by kernel_rfl)⟩,rfl⟩
 |4,_,e=>os (P:=GV w h mg mb 4) e ⟨.ref 191,.inl ((congrFun em _).trans (T8 ..)),rfl⟩
 |_+5,_,e=>no e
theorem Ud (x:BI):mg (nN x)=none∧mb (nN x)=some (nJ x):=⟨(congrFun em _).trans (T9 ..),by cases x <;>exact (bne _ (by decide+kernel)).trans (by kernel_rfl)⟩
theorem Ue:∀n∈["tuple","map","enumerate"],mg (Str.ofString n)=none∧mb (Str.ofString n)=some (.type n):=by obtain ⟨t1,t2,t3⟩:=Ua eS bG y w z;exact List.forall_mem_cons.mpr ⟨⟨(congrFun em _).trans t1,(bne _ (by decide+kernel)).trans (by kernel_rfl)⟩,List.forall_mem_cons.mpr ⟨⟨(congrFun em _).trans t2,(bne _ (by decide+kernel)).trans (by kernel_rfl)⟩,List.forall_mem_cons.mpr ⟨⟨(congrFun em _).trans t3,(bne _ (by decide+kernel)).trans (by kernel_rfl)⟩,fun _ q=>nomatch q⟩⟩⟩
end
theorem gnX (T:Top qV lo mean mg mb h) (Y:YV w h):Gn (Xm w h mg mb):=by
 obtain ⟨y,z,hz,hk⟩:=Y;have em:=Ub T hk;have bne:∀x:Str,x≠"__name__"→mb x=bootBuiltins x:=T.builtins;refine {g:=T.g,b:=T.b,lim:=T.nolimit,fW:=fun k=>?_,gv:=Uc em bne,bi:=Ud em bne,ty:=Ue em bne,Sn:=fun f hf=>rec_of hf fun r d hr _ hn _ _=>?_}
 ·cases k with
  |zero=>exact ⟨_,by decide,zw (k:=0) (hk _ _ (abs_get (t:=(sF w eS bG y z).tree) (n:=(sF w eS bG y z).n) (by rw [T3];decide) (LP ..))) hz.q6 YW⟩
  |succ k=>exact ⟨_,by decide,zw (k:=k+1) (hk _ _ (abs_get (t:=(sF w eS bG y z).tree) (n:=(sF w eS bG y z).n) (by rw [T3];decide) (LO ..))) hz.q5 (YX k)⟩
 ·obtain ⟨a,o,pm,code,doc,h1,h2,h3,_⟩:=T.fn r hr;exact ⟨a,o,_,hn▸h1,h2,h3⟩
theorem GJ {d:FD} (h:ai f=some d):f<30:=by
 rcases Nat.lt_or_ge f 30 with q|q
 ·exact q
 ·obtain ⟨k,rfl⟩:=Nat.exists_eq_add_of_le' q;exact no h
theorem YY (T:Top qV lo mean mg mb h):∀f d,ai f=some d→uS (Xm w h mg mb) f d:=by intro f d hd;refine rec_of (GJ hd) fun r d' hr hd' hn hm hp=>?_;rw [hd] at hd';cases hd';obtain ⟨a,o,pm,code,doc,h1,h2,h3,h4⟩:=T.fn r hr;rw [hn] at h1 h3 h4;exact ⟨a,o,pm,code,doc,r.params,r.body,r.scope,h1,h2,h3,h4,hm,by rw [hp];exact bFs f d hd _ _ _ _ _ _⟩
end
end
noncomputable abbrev Iz:OpenRow:=PySem.Challenge.rw_ik0202_01.row
theorem oX:∀{xs:List WData},WShape.hasItems [] xs .int=true→∃l:List Int,xs=l.map .int
 |[],_=>⟨[],rfl⟩
 |x::xs,h=>by simp only [WShape.hasItems,Bool.and_eq_true] at h;obtain ⟨i,rfl⟩:=hasW_int h.1;obtain ⟨l,rfl⟩:=oX h.2;exact ⟨i::l,rfl⟩
theorem GK {args:List WData} (h:Iz.toRowW.claim.pre args=true):∃l:List Int,args=[.list (l.map .int)]∧l.length≤63:=by obtain ⟨h1,h2⟩:=pre_splitW h;obtain ⟨d,r,rfl,h3,h4⟩:=hasAllW_cons (show WShape.hasAll [] args [.list .int]=true from h1);obtain rfl:=hasAllW_nil h4;obtain ⟨xs,rfl,h5⟩:=hasW_list h3;obtain ⟨l,rfl⟩:=oX h5;refine ⟨l,rfl,?_⟩;have h2:WTm.holds [] (.and (.not (.lt (.lit (.int 63)) (.len (.arg 0)))) (.lit (.bool true))) {args:=[.list (l.map .int)]}=true:=h2;have h3:=(holdsW_of_value (X:=!decide ((63:Int)<((l.map WData.int).length:Int))) (by kernel_rfl)).symm.trans (holds_andW h2).1;rw [Bool.not_eq_true',decide_eq_false_iff_not,List.length_map] at h3;exact Nat.le_of_not_lt fun q=>h3 (Int.ofNat_lt.mpr q)
theorem zx {X:Cx} {w:World} {h:Heap}:∀{l:List Int} {vs:List Value},WellAll w.params h vs (l.map .int)→aE X h [] (l.map .int) vs
 |[],_,hw=>by cases hw;exact rfl
 |i::l,_,hw=>by obtain ⟨v,r,rfl,a,b⟩:=wellAll_cons_inv hw;obtain ⟨t,rfl⟩:=Value.isInt_shape ((encInt eS w).is a).1;exact aE.cons (Exists.intro t rfl) (zx b)
noncomputable def Plain:Prop:=∀l:List Int,l.length≤63→(lv ai 100 6).f 29 [.lst (l.map .int)] []=some (.bool true)
theorem walk (PL:Plain) {d:DefRec} (hdn:d.name=fn 29) {kwd:List (Str×Expr)}:WalkN qV cZ (fun _ _=>True) YV Iz.toRowW d kwd (fun f vs=>PySem.call f vs):=by
 intro w s₀ s₁ mg mb G Y a o pm cd doc dV kV ho hd hcd hD hmg hg args vals as hpre hlay hrd hwl hlo;obtain ⟨l,rfl,hl⟩:=GK hpre;cases hwl with
 |cons hw0 hw1=>
  cases hw1;cases hw0 with
  |@list la vs _ hla hvs=>
   have Gx:=gnX G.T Y;have Fx:=YY (w:=w) G.T;have hc:=PL l hl;have ok:=(sound (X:=Xm w s₁.heap mg mb) (T:=ai) (K:=100) Gx Fx 6).1 29 [.lst (l.map .int)] [] (.bool true) hc a (by show mg (fn 29)=_;rw [←hdn];exact hmg) callerA;have rr:=zx (X:=Xm w s₁.heap mg mb) hvs;have hvl:vs.length≤16777216:=by have:=rr.length;simp only [List.length_map] at this;exact NZ hl this
   refine ok _ _ s₁ [] [.ref la] [] ⟨rfl,by decide,by decide⟩ (fun _ _ e=>e) (by simp) (by simp) ?_ rfl ?_
   ·refine aE.one ?_;exact Exists.intro la ⟨vs,rfl,by simp,⟨_,hla,rfl,0,rfl⟩,hvl,rr⟩
   ·intro val h' tk hk r;cases (show val=.bool true from r);refine ⟨.inl ⟨.bool true,.bool true,[],rfl,fun cls=>rfl,ReadsW.bool true,?_,fun _=>⟨List.nodup_nil,by simp⟩⟩,hk,rfl,hg⟩;show (WShape.has [] (.bool true) .bool&&WTm.holds [] (.eq .res (.lit (.bool true))) {args:=[.list (l.map .int)],res:=some (.bool true),after:=[.list (l.map .int)]})=true;kernel_rfl
noncomputable def xU:DefRec:=(recsOf qV).getD 34 ⟨"",⟨[],[],none,[],[],none,[]⟩,[],PySem.Challenge.pw_ik0202_01.main.scope,default⟩
theorem GL:defOf qV Iz.name=some (xU,[]):=by kernel_rfl
theorem GN:Iz.prog.theDef Iz.name=some (xU.params,xU.body,xU.scope):=by kernel_rfl
theorem LQ:kwWritten? xU.params.kwonlyargs xU.params.kw_defaults=some []:=by kernel_rfl
theorem LR:xU.name=fn 29:=by kernel_rfl
theorem LS:(chainsOk qV&&opensWell Iz.prog&&(frees Iz.toRowW&&Iz.toRowW.within.isEmpty))=true:=by kernel_rfl
noncomputable def sW (w:World):Shared:=Classical.choose (zv w)
theorem IA (w:World):openEnds treeTable eS w kH=some (sW w)∧openSeen qV cZ (importedModules eS.main.body) (fun _=>true) false (sW w)=openGood qV cZ∧∃os z,Sets.Ok w z∧sW w=(sF w eS bG os z).abs:=Classical.choose_spec (zv w)
theorem DV:OpenLaw.wellSaid PySem.Challenge.rw_ik0202_01=true:=by kernel_rfl
theorem AR (PL:Plain):PySem.Challenge.rw_ik0202_01.Holds:=by
 refine holds_law DV fun said=>?_;refine holds_openN (r:=PySem.Challenge.rw_ik0202_01.row) (q:=qV) (loose:=cZ) (Xt:=fun _=>true) (XP:=fun _ _=>True) (Yf:=id) (Ya:=sW) (YP:=YV) (N:=kH)
  (fun w=>?_) (fun w s e=>?_) (fun w h h' y hk=>?_) (fun _ _=>trivial) (fun _ _ _ _ _=>trivial) GL GN LQ (fun s _=>recFacts_nil rfl) (by rfl) said LS ⟨rfl,rfl,rfl,rfl,rfl,by decide+kernel⟩ ⟨[.list []],by decide+kernel,by decide+kernel⟩ (walk PL LR)
 ·obtain ⟨h1,h2,_⟩:=IA w;show (openEnds treeTable eS w kH).map _=_;rw [h1];exact congrArg some (Prod.ext h2 rfl)
 ·obtain ⟨_,_,os,z,hz,e2⟩:=IA w;have e:s=sW w:=e;rw [e,e2];exact ⟨os,z,hz,fun _ _ q=>q⟩
 ·obtain ⟨os,z,hz,k⟩:=y;exact ⟨os,z,hz,fun b o q=>hk b o (k b o q)⟩
end
end Mine
end
theorem PySem.Challenge.cw_ik0202_01_holds : PySem.Challenge.rw_ik0202_01.Holds :=
 Mine.AR Mine.P.plain
