import PyProof.Rows.All
import Wide.All
import OpenK.AllK
import Wide.FinOn
import PyProof.TableCode
import Lean
import PySem.Challenge.RW_sc0059_01
open PySem PySem.W PyProof.Rows PySem.Calls
set_option Elab.async false
set_option tactic.hygienic false
set_option linter.unusedVariables false
set_option linter.unusedSimpArgs false
set_option genInjectivity false
set_option genSizeOf false
set_option genSizeOfSpec false
namespace Mine
inductive Le where
 |v (i:Nat)
 |n (k:Nat)
 |a (x y:Le)
 |m (k:Nat) (x:Le)
 |r (k:Nat) (x:Le)
 |c (x:Le)
 |s (x y:Le)
 |g (x:Le)
abbrev Lv:=Int×List Int×List Int
noncomputable def Le.N(e:List Nat)(x:Le):Nat:=(Le.rec (motive:= λ_=>Nat) (λi=>Nat.rec (motive:= λ_=>List Nat->Nat) (λe=>List.rec (motive:= λ_=>Nat) (0:Nat) (λx _ _=>x) e) (λ_ r e=>List.rec (motive:= λ_=>Nat) (0:Nat) (λ_ t _=>r t) e) i e) (λk=>(Nat.rec (motive:= λ_=>Nat) 0 (λn _=>n.succ) k)) (λ_ _ x y=>x+y) (λk _ x=>(Nat.rec (motive:= λ_=>Nat) 0 (λn _=>n.succ) k)*x) (λk _ x=>x*(Nat.rec (motive:= λ_=>Nat) 0 (λn _=>n.succ) k)) (λ_ _=>0) (λ_ _ _ _=>0) (λ_ _=>0) x)
noncomputable def Le.Z(e:List Nat)(z:List Int)(x:Le):Int:=(λN:Le->Nat=>Le.rec (motive:= λ_=>Int) (λi=>Nat.rec (motive:= λ_=>List Int->Int) (λe=>List.rec (motive:= λ_=>Int) (0:Int) (λx _ _=>x) e) (λ_ r e=>List.rec (motive:= λ_=>Int) (0:Int) (λ_ t _=>r t) e) i z) (λk=>(Nat.cast (Nat.rec (motive:= λ_=>Nat) 0 (λn _=>n.succ) k):Int)) (λ_ _ x y=>x+y) (λk _ x=>(Nat.cast (Nat.rec (motive:= λ_=>Nat) 0 (λn _=>n.succ) k):Int)*x) (λk _ x=>x*(Nat.cast (Nat.rec (motive:= λ_=>Nat) 0 (λn _=>n.succ) k):Int)) (λx _=>(Nat.cast (N x):Int)) (λ_ _ x y=>x - y) (λ_ x=> -x) x) (λx=>Le.rec (motive:= λ_=>Nat) (λi=>Nat.rec (motive:= λ_=>List Nat->Nat) (λe=>List.rec (motive:= λ_=>Nat) (0:Nat) (λx _ _=>x) e) (λ_ r e=>List.rec (motive:= λ_=>Nat) (0:Nat) (λ_ t _=>r t) e) i e) (λk=>(Nat.rec (motive:= λ_=>Nat) 0 (λn _=>n.succ) k)) (λ_ _ x y=>x+y) (λk _ x=>(Nat.rec (motive:= λ_=>Nat) 0 (λn _=>n.succ) k)*x) (λk _ x=>x*(Nat.rec (motive:= λ_=>Nat) 0 (λn _=>n.succ) k)) (λ_ _=>0) (λ_ _ _ _=>0) (λ_ _=>0) x)
noncomputable def KX(k:Int)(a:List Int):List Int:=List.rec [] (λx _ r=>(k*x)::r) a
noncomputable def LR(a:List Int):List Int->List Int:=List.rec (λb=>b) (λx _ r b=>List.rec (x::r []) (λy b _=>(x+y)::r b) b) a
noncomputable def Qn(i:Nat):List Int:=Nat.rec [1] (λ_ r=>0::r) i
noncomputable def Lv.add(x y:Lv):Lv:=(x.1+y.1,LR x.2.1 y.2.1,LR x.2.2 y.2.2)
noncomputable def Lv.mul(k:Int)(x:Lv):Lv:=(k*x.1,KX k x.2.1,KX k x.2.2)
noncomputable def Le.p(x:Le):Lv:=Le.rec (λi=>(0,Qn i,[])) (λk=>((Nat.cast (Nat.rec (motive:= λ_=>Nat) 0 (λn _=>n.succ) k):Int),[],[])) (λ_ _ x y=>x.add y) (λk _ x=>x.mul (Nat.cast (Nat.rec (motive:= λ_=>Nat) 0 (λn _=>n.succ) k):Int)) (λk _ x=>x.mul (Nat.cast (Nat.rec (motive:= λ_=>Nat) 0 (λn _=>n.succ) k):Int)) (λ_ _=>(0,[],[])) (λ_ _ _ _=>(0,[],[])) (λ_ _=>(0,[],[])) x
noncomputable def Le.q(x:Le):Lv:=Le.rec (λi=>(0,[],Qn i)) (λk=>((Nat.cast (Nat.rec (motive:= λ_=>Nat) 0 (λn _=>n.succ) k):Int),[],[])) (λ_ _ x y=>x.add y) (λk _ x=>x.mul (Nat.cast (Nat.rec (motive:= λ_=>Nat) 0 (λn _=>n.succ) k):Int)) (λk _ x=>x.mul (Nat.cast (Nat.rec (motive:= λ_=>Nat) 0 (λn _=>n.succ) k):Int)) (λx _=>x.p) (λ_ _ x y=>x.add (y.mul (-1))) (λ_ x=>x.mul (-1)) x
noncomputable def Em(a:List Int):List Int->Int:=List.rec (λ_=>0) (λk _ r e=>List.rec 0 (λx e _=>k*x+r e) e) a
inductive Lf where
 |o (w:Nat) (t s n:Bool) (x y:Le)
 |e (w:Int) (n:Bool) (x y:Le)
noncomputable def Zi(e:List Nat)(z:List Int)(s n:Bool)(x y:Le):Prop:=(λN:Le->Nat=>(λZ:Le->Int=>Bool.rec (motive:= λ_=>Prop) (Bool.rec (motive:= λ_=>Prop) (Z x<=Z y) (Z x<Z y) s) (Bool.rec (motive:= λ_=>Prop) (N x<=N y) (N x<N y) s) n) (λx=>Le.rec (motive:= λ_=>Int) (λi=>Nat.rec (motive:= λ_=>List Int->Int) (λe=>List.rec (motive:= λ_=>Int) (0:Int) (λx _ _=>x) e) (λ_ r e=>List.rec (motive:= λ_=>Int) (0:Int) (λ_ t _=>r t) e) i z) (λk=>(Nat.cast (Nat.rec (motive:= λ_=>Nat) 0 (λn _=>n.succ) k):Int)) (λ_ _ x y=>x+y) (λk _ x=>(Nat.cast (Nat.rec (motive:= λ_=>Nat) 0 (λn _=>n.succ) k):Int)*x) (λk _ x=>x*(Nat.cast (Nat.rec (motive:= λ_=>Nat) 0 (λn _=>n.succ) k):Int)) (λx _=>(Nat.cast (N x):Int)) (λ_ _ x y=>x - y) (λ_ x=> -x) x)) (λx=>Le.rec (motive:= λ_=>Nat) (λi=>Nat.rec (motive:= λ_=>List Nat->Nat) (λe=>List.rec (motive:= λ_=>Nat) (0:Nat) (λx _ _=>x) e) (λ_ r e=>List.rec (motive:= λ_=>Nat) (0:Nat) (λ_ t _=>r t) e) i e) (λk=>(Nat.rec (motive:= λ_=>Nat) 0 (λn _=>n.succ) k)) (λ_ _ x y=>x+y) (λk _ x=>(Nat.rec (motive:= λ_=>Nat) 0 (λn _=>n.succ) k)*x) (λk _ x=>x*(Nat.rec (motive:= λ_=>Nat) 0 (λn _=>n.succ) k)) (λ_ _=>0) (λ_ _ _ _=>0) (λ_ _=>0) x)
noncomputable def Lf.den(e:List Nat)(z:List Int)(f:Lf):Prop:=(λN:Le->Nat=>(λZ:Le->Int=>(λR:Bool->Bool->Le->Le->Prop=>Lf.rec (motive:= λ_=>Prop) (λ_ t s n x y=>Bool.rec (motive:= λ_=>Prop) (R s n x y) (¬R s n x y) t) (λ_ n x y=>Bool.rec (motive:= λ_=>Prop) (Z x=Z y) (N x=N y) n) f) (λs n x y=>Bool.rec (motive:= λ_=>Prop) (Bool.rec (motive:= λ_=>Prop) (Z x<=Z y) (Z x<Z y) s) (Bool.rec (motive:= λ_=>Prop) (N x<=N y) (N x<N y) s) n)) (λx=>Le.rec (motive:= λ_=>Int) (λi=>Nat.rec (motive:= λ_=>List Int->Int) (λe=>List.rec (motive:= λ_=>Int) (0:Int) (λx _ _=>x) e) (λ_ r e=>List.rec (motive:= λ_=>Int) (0:Int) (λ_ t _=>r t) e) i z) (λk=>(Nat.cast (Nat.rec (motive:= λ_=>Nat) 0 (λn _=>n.succ) k):Int)) (λ_ _ x y=>x+y) (λk _ x=>(Nat.cast (Nat.rec (motive:= λ_=>Nat) 0 (λn _=>n.succ) k):Int)*x) (λk _ x=>x*(Nat.cast (Nat.rec (motive:= λ_=>Nat) 0 (λn _=>n.succ) k):Int)) (λx _=>(Nat.cast (N x):Int)) (λ_ _ x y=>x - y) (λ_ x=> -x) x)) (λx=>Le.rec (motive:= λ_=>Nat) (λi=>Nat.rec (motive:= λ_=>List Nat->Nat) (λe=>List.rec (motive:= λ_=>Nat) (0:Nat) (λx _ _=>x) e) (λ_ r e=>List.rec (motive:= λ_=>Nat) (0:Nat) (λ_ t _=>r t) e) i e) (λk=>(Nat.rec (motive:= λ_=>Nat) 0 (λn _=>n.succ) k)) (λ_ _ x y=>x+y) (λk _ x=>(Nat.rec (motive:= λ_=>Nat) 0 (λn _=>n.succ) k)*x) (λk _ x=>x*(Nat.rec (motive:= λ_=>Nat) 0 (λn _=>n.succ) k)) (λ_ _=>0) (λ_ _ _ _=>0) (λ_ _=>0) x)
noncomputable def Le.f(n:Bool)(x:Le):Lv:=Bool.rec x.q x.p n
noncomputable def Le.df(n:Bool)(x y:Le):Lv:=(y.f n).add ((x.f n).mul (-1))
noncomputable def Lf.lv(f:Lf):Lv:=Lf.rec (λw t s n x y=>Lv.mul (w:Int) (Bool.rec (Lv.add (Bool.rec 0 (-1) s,[],[]) (x.df n y)) (Lv.add (Bool.rec (-1) 0 s,[],[]) (y.df n x)) t)) (λw n x y=>Lv.mul w (x.df n y)) f
noncomputable def LG(fs:List Lf):Lv:=List.rec (0,[],[]) (λf _ r=>f.lv.add r) fs
noncomputable def UG(a:List Int):Bool:=List.rec true (λx _ r=>Int.rec (λn=>Nat.rec r (λ_ _=>false) n) (λ_=>r) x) a
noncomputable def WR(a:List Int):Bool:=List.rec true (λx _ r=>Int.rec (λn=>Nat.rec r (λ_ _=>false) n) (λ_=>false) x) a
noncomputable def Pm(fs:List Lf):Bool:=Int.rec (λ_=>false) (λ_=>and (UG (LG fs).2.1) (WR (LG fs).2.2)) (LG fs).1
def b2(i:Nat):Bool:=Nat.beq (i%2) 1
noncomputable def E5:Nat->Nat->List Le->List Lf->List Lf×Option Lf
 |0,_,_,fs=>(fs,none)
 |t+1,c,st,fs=>
  let d:=c/16
  let i:=d%16
  match c%16,st with
  |1,st=>E5 t (d/16) (.v i::st) fs
  |2,st=>E5 t (d/16) (.n i::st) fs
  |3,st=>E5 t (d/16/16 ^ i) (.n (d/16%16 ^ i)::st) fs
  |4,y::x::st=>E5 t d (.a x y::st) fs
  |5,x::st=>E5 t (d/16/16 ^ i) (.m (d/16%16 ^ i) x::st) fs
  |6,x::st=>E5 t (d/16/16 ^ i) (.r (d/16%16 ^ i) x::st) fs
  |7,x::st=>E5 t d (.c x::st) fs
  |8,y::x::st=>E5 t d (.s x y::st) fs
  |9,x::st=>E5 t d (.g x::st) fs
  |10,y::x::st=>E5 t (d/256) st (.o (d/16%16) (b2 i) (b2 (i/2)) (b2 (i/4)) x y::fs)
  |11,y::x::st=>E5 t (d/256) st (.e (Bool.rec (d/16%16:Nat) (-(d/16%16:Nat)) (b2 i)) (b2 (i/4)) x y::fs)
  |13,y::x::st=>E5 t (d/4096) st (.o (d/16%256) (b2 i) (b2 (i/2)) (b2 (i/4)) x y::fs)
  |12,y::x::_=>(fs,some (.o (d/16%16) (b2 i) (b2 (i/2)) (b2 (i/4)) x y))
  |_,_=>(fs,none)
noncomputable def LU(e:List Nat)(z:List Int)(P:Prop)(fs:List Lf):Prop:=List.rec P (λf _ r=>f.den e z->r) fs
noncomputable def UW(e:List Nat)(z:List Int)(c:List Lf×Option Lf):Prop:=LU e z (Option.rec False (λg=>g.den e z) c.2) c.1
noncomputable def Lf.neg(f:Lf):Lf:=Lf.rec (λw t s n x y=>.o w (not t) s n x y) (λw n x y=>.e 0 n x y) f
noncomputable def Tb(c:List Lf×Option Lf):Bool:=Pm (Option.rec c.1 (λg=>g.neg::c.1) c.2)
noncomputable def Te(c:List Lf×Option Lf):Bool:=Option.rec true (λg=>Lf.rec (λ_ _ _ _ _ _=>true) (λ_ _ _ _=>false) g) c.2
def nE(e:List Nat):List Int:=e.map λ(x:Nat)=>(x:Int)
noncomputable def Lv.ev(e:List Nat)(z:List Int)(x:Lv):Int:=x.1+Em x.2.1 (nE e)+Em x.2.2 z
theorem bI(e:List Int):Em [] e=0:=rfl
theorem PN(a:List Int):Em a []=0:=by cases a<;>rfl
theorem kV{a b c d:Int}:a+b+(c+d)=a+c+(b+d):=by omega
theorem Uy(a:List Int):∀(b e:List Int),Em (LR a b) e=Em a e+Em b e:=by
 induction a with
 |nil=>exact λb e=>(Int.zero_add _).symm
 |cons x a ih=>
  intro b e
  cases e with
  |nil=>rw[PN,PN,PN];rfl
  |cons u e=>
   cases b with
   |nil=>exact(congrArg (x*u+·) ((ih [] e).trans (Int.add_zero _))).trans (Int.add_zero _).symm
   |cons y b=>exact(congrArg ((x+y)*u+·) (ih b e)).trans ((congrArg (· +_) (Int.add_mul x y u)).trans kV)
theorem V6(k:Int)(a:List Int):∀(e:List Int),Em (KX k a) e=k*Em a e:=by
 induction a with
 |nil=>exact λe=>(Int.mul_zero k).symm
 |cons x a ih=>
  intro e
  cases e with
  |nil=>exact(Int.mul_zero k).symm
  |cons u e=>exact(congrArg (k*x*u+·) (ih e)).trans ((congrArg (· +_) (Int.mul_assoc k x u)).trans (Int.mul_add k _ _).symm)
noncomputable def VJ(z:List Int)(i:Nat):Int:=(λi=>Nat.rec (motive:= λ_=>List Int->Int) (λe=>List.rec (motive:= λ_=>Int) (0:Int) (λx _ _=>x) e) (λ_ r e=>List.rec (motive:= λ_=>Int) (0:Int) (λ_ t _=>r t) e) i z) i
noncomputable def gM(e:List Nat)(i:Nat):Nat:=(λi=>Nat.rec (motive:= λ_=>List Nat->Nat) (λe=>List.rec (motive:= λ_=>Nat) (0:Nat) (λx _ _=>x) e) (λ_ r e=>List.rec (motive:= λ_=>Nat) (0:Nat) (λ_ t _=>r t) e) i e) i
theorem SH(i:Nat):∀(e:List Int),Em (Qn i) e=VJ e i:=by
 induction i with
 |zero=>
  intro e
  cases e with
  |nil=>rfl
  |cons x e=>exact(congrArg (1*x+·) (bI e)).trans ((Int.add_zero _).trans (Int.one_mul x))
 |succ i ih=>
  intro e
  cases e with
  |nil=>rfl
  |cons x e=>exact(congrArg (0*x+·) (ih e)).trans ((congrArg (· +_) (Int.zero_mul x)).trans (Int.zero_add _))
theorem o9(e:List Nat):∀(i:Nat),VJ (nE e) i=((gM e i:Nat):Int):=by
 induction e with
 |nil=>exact λi=>by cases i<;>rfl
 |cons x e ih=>
  intro i
  cases i with
  |zero=>rfl
  |succ i=>exact ih i
theorem oD{a b c d x y:Int}:(a+d)+(b+x)+(c+y)=(a+b+c)+(d+x+y):=by omega
theorem Lv.ev_add(e z)(x y:Lv):(x.add y).ev e z=x.ev e z+y.ev e z:=by
 show x.1+y.1+Em (LR _ _) _+Em (LR _ _) _=_
 rw[Uy,Uy];exact oD
theorem Lv.ev_mul(e z)(k:Int)(x:Lv):(x.mul k).ev e z=k*x.ev e z:=by
 show k*x.1+Em (KX _ _) _+Em (KX _ _) _=_
 rw[V6,V6,<-Int.mul_add,<-Int.mul_add];rfl
theorem K7(e z)(k:Int):Lv.ev e z (k,[],[])=k:=(Int.add_zero _).trans (Int.add_zero _)
theorem Le.p_ok(e z)(x:Le):x.p.ev e z=(x.N e:Int):=by
 induction x with
 |v i=>exact(Int.add_zero _).trans ((Int.zero_add _).trans ((SH i _).trans (o9 e i)))
 |n k=>exact K7 e z _
 |a x y h1 h2=>exact(Lv.ev_add e z _ _).trans ((congrArg (· +_) h1).trans (congrArg (_+·) h2))
 |m k x h=>exact(Lv.ev_mul e z _ _).trans (congrArg (_*·) h)
 |r k x h=>exact(Lv.ev_mul e z _ _).trans ((congrArg (_*·) h).trans (Int.mul_comm _ _))
 |_=>exact K7 e z 0
theorem Qp(x:Int): -1*x= -x:=by omega
theorem Le.q_ok(e z)(x:Le):x.q.ev e z=x.Z e z:=by
 induction x with
 |v i=>exact(congrArg (· +_) ((Int.add_zero 0))).trans ((Int.zero_add _).trans (SH i _))
 |n k=>exact K7 e z _
 |a x y h1 h2=>exact(Lv.ev_add e z _ _).trans ((congrArg (· +_) h1).trans (congrArg (_+·) h2))
 |m k x h=>exact(Lv.ev_mul e z _ _).trans (congrArg (_*·) h)
 |r k x h=>exact(Lv.ev_mul e z _ _).trans ((congrArg (_*·) h).trans (Int.mul_comm _ _))
 |c x=>exact x.p_ok e z
 |s x y h1 h2=>exact(Lv.ev_add e z _ _).trans ((congrArg (· +_) h1).trans (congrArg (_+·) ((Lv.ev_mul e z _ _).trans ((Qp _).trans (congrArg (- ·) h2)))))
 |g x h=>exact(Lv.ev_mul e z _ _).trans ((Qp _).trans (congrArg (- ·) h))
noncomputable def Le.V(e:List Nat)(z:List Int)(n:Bool)(x:Le):Int:=Bool.rec (x.Z e z) (x.N e:Int) n
theorem Le.f_ok(e z)(n:Bool)(x:Le):(x.f n).ev e z=x.V e z n:=by cases n with|false=>exact x.q_ok e z|true=>exact x.p_ok e z
theorem Le.df_ok(e z)(n:Bool)(x y:Le):(x.df n y).ev e z=y.V e z n - x.V e z n:=(Lv.ev_add e z _ _).trans ((congrArg (· +_) (y.f_ok e z n)).trans (congrArg (_+·) ((Lv.ev_mul e z _ _).trans ((Qp _).trans (congrArg (- ·) (x.f_ok e z n))))))
theorem VB(e z)(s n:Bool)(x y:Le):Zi e z s n x y↔0<=(Bool.rec 0 (-1) s:Int)+(y.V e z n - x.V e z n):=by
 cases n with
 |false=>cases s with
  |false=>show x.Z e z<=y.Z e z↔0<=0+(y.Z e z - x.Z e z);omega
  |true=>show x.Z e z<y.Z e z↔0<= -1+(y.Z e z - x.Z e z);omega
 |true=>cases s with
  |false=>show x.N e<=y.N e↔0<=0+((y.N e:Int) - x.N e);omega
  |true=>show x.N e<y.N e↔0<= -1+((y.N e:Int) - x.N e);omega
theorem jV{a b c d:Int}(h:c+d= -1)(n:¬0<=c+(b - a)):0<=d+(a - b):=by omega
theorem Lf.lv_ok{e z}(f:Lf)(h:f.den e z):0<=f.lv.ev e z:=by
 cases f with
 |o w t s n x y=>
  show 0<=(Lv.mul _ _).ev e z
  rw[Lv.ev_mul]
  refine Int.mul_nonneg (Int.natCast_nonneg w) ?_
  cases t with
  |false=>
   have h:=(VB e z s n x y).mp h
   show 0<=(Lv.add _ _).ev e z
   rw[Lv.ev_add,Le.df_ok,K7];exact h
  |true=>
   have h:= λq=>h ((VB e z s n x y).mpr q)
   show 0<=(Lv.add _ _).ev e z
   rw[Lv.ev_add,Le.df_ok,K7];exact jV (by cases s<;>rfl) h
 |e w n x y=>
  show 0<=(Lv.mul _ _).ev e z
  have q:y.V e z n=x.V e z n:=by
   cases n with
   |false=>exact Eq.symm h
   |true=>exact congrArg Int.ofNat (Eq.symm h)
  rw[Lv.ev_mul,Le.df_ok,q,Int.sub_self,Int.mul_zero];exact Int.le_refl 0
theorem cW{e z}{P:Prop}(fs:List Lf):∀(a:Int),0<=a->(0<=a+(LG fs).ev e z->P)->LU e z P fs:=by
 induction fs with
 |nil=>exact λa h k=>k (Int.le_trans h (Int.le_of_eq ((Int.add_zero a).symm.trans (congrArg (a+·) (K7 e z 0).symm))))
 |cons f fs ih=>exact λa h k hf=>ih (a+f.lv.ev e z) (Int.add_nonneg h (f.lv_ok hf)) λq=>k (Int.le_trans q (Int.le_of_eq ((Int.add_assoc _ _ _).trans (congrArg (a+·) (Lv.ev_add e z _ _).symm))))
theorem pA(a:List Int):∀(e:List Nat),UG a=true->Em a (nE e)<=0:=by
 induction a with
 |nil=>exact λ_ _=>Int.le_refl 0
 |cons k a ih=>
  intro e h
  cases e with
  |nil=>exact Int.le_refl 0
  |cons x e=>cases k with
   |ofNat n=>cases n with
    |zero=>exact Int.le_trans (Int.le_of_eq ((congrArg (· +_) (Int.zero_mul _)).trans (Int.zero_add _))) (ih e h)
    |succ n=>exact Bool.noConfusion h
   |negSucc n=>exact Int.add_nonpos (Int.mul_nonpos_of_nonpos_of_nonneg (Int.le_of_lt (Int.negSucc_lt_zero n)) (Int.natCast_nonneg x)) (ih e h)
theorem f5(a:List Int):∀(e:List Int),WR a=true->Em a e=0:=by
 induction a with
 |nil=>exact λ_ _=>rfl
 |cons k a ih=>
  intro e h
  cases e with
  |nil=>rfl
  |cons x e=>cases k with
   |ofNat n=>cases n with
    |zero=>exact((congrArg (· +_) (Int.zero_mul _)).trans (Int.zero_add _)).trans (ih e h)
    |succ n=>exact Bool.noConfusion h
   |negSucc n=>exact Bool.noConfusion h
theorem Qg{e z}{fs:List Lf}(h:Pm fs=true):LU e z False fs:=by
 refine cW fs 0 (Int.le_refl 0) λk=>?_
 unfold Pm at h
 unfold Lv.ev at k
 revert h k
 generalize LG fs=q
 obtain⟨c,a,b⟩:=q
 cases c with
 |ofNat n=>exact λh=>Bool.noConfusion h
 |negSucc n=>
  intro h k
  have h:=Bool.and_eq_true_iff.mp h
  have h1:=pA a e h.1
  have h2:=f5 b z h.2
  have h3:=Int.negSucc_lt_zero n
  simp only[h2] at k
  omega
theorem Vr{e z}{G:Prop}(fs:List Lf):(¬G->LU e z False fs)->LU e z G fs:=by
 induction fs with
 |nil=>exact Classical.byContradiction
 |cons f fs ih=>exact λh hf=>ih λn=>h n hf
theorem Eo{e z}{c:List Lf×Option Lf}(h:and (Tb c) (Te c)=true):UW e z c:=by
 obtain⟨fs,o⟩:=c
 have h:=Bool.and_eq_true_iff.mp h
 cases o with
 |none=>exact Qg h.1
 |some g=>cases g with
  |o w t s n x y=>cases t with
   |false=>exact Vr fs λq=>Qg h.1 q
   |true=>exact Vr fs λq=>Qg h.1 (Classical.not_not.mp q)
  |e w n x y=>exact Bool.noConfusion h.2
abbrev lC(c:Nat):Prop:=and (Tb (E5 99 c [] [])) (Te (E5 99 c [] []))=true
abbrev lD(c:Nat)(e:List Nat)(z:List Int):Prop:=UW e z (E5 99 c [] [])
theorem Aa:true=true:=rfl
theorem Bm{a b:Nat}{P:Prop}(h:a<=b->min a b=a->P)(k:b<=a->min a b=b->P):P:=(Nat.le_total a b).elim (λq=>h q (Nat.min_eq_left q)) λq=>k q (Nat.min_eq_right q)
theorem W5{a b:Nat}{P:Prop}(h:a<=b->max a b=b->P)(k:b<=a->max a b=a->P):P:=(Nat.le_total a b).elim (λq=>h q (Nat.max_eq_right q)) λq=>k q (Nat.max_eq_left q)
theorem DH{a b:Int}{P:Prop}(h:a<=b->min a b=a->P)(k:b<=a->min a b=b->P):P:=(Int.le_total a b).elim (λq=>h q (Int.min_eq_left q)) λq=>k q (Int.min_eq_right q)
theorem Ia{a b:Int}{P:Prop}(h:a<=b->max a b=b->P)(k:b<=a->max a b=a->P):P:=(Int.le_total a b).elim (λq=>h q (Int.max_eq_right q)) λq=>k q (Int.max_eq_left q)
theorem HT{a b:Nat}{P:Prop}(h:b<=a->a - b+b=a->P)(k:a<=b->a - b=0->P):P:=(Nat.le_total b a).elim (λq=>h q (Nat.sub_add_cancel q)) λq=>k q (Nat.sub_eq_zero_of_le q)
theorem HR{a:Int}{P:Prop}(h:0<=a->(a.toNat:Int)=a->P)(k:a<=0->a.toNat=0->P):P:=(Int.le_total 0 a).elim (λq=>h q (Int.toNat_of_nonneg q)) λq=>k q (Int.toNat_eq_zero.mpr q)
theorem Bl{a b:Nat}:a<=a - b+b:=Nat.sub_le_iff_le_add.mp (Nat.le_refl _)
theorem AE(c:Nat)(h:lC c):lD c [] []:=Eo h
theorem EX{z0:Int}(c:Nat)(h:lC c):lD c [] [z0]:=Eo h
theorem Wx{z0 z1:Int}(c:Nat)(h:lC c):lD c [] [z0,z1]:=Eo h
theorem Ah{x0:Nat}(c:Nat)(h:lC c):lD c [x0] []:=Eo h
theorem BO{x0:Nat}{z0:Int}(c:Nat)(h:lC c):lD c [x0] [z0]:=Eo h
theorem Ac{x0 x1:Nat}(c:Nat)(h:lC c):lD c [x0,x1] []:=Eo h
theorem IY{x0 x1:Nat}{z0:Int}(c:Nat)(h:lC c):lD c [x0,x1] [z0]:=Eo h
theorem BC{x0 x1:Nat}{z0 z1:Int}(c:Nat)(h:lC c):lD c [x0,x1] [z0,z1]:=Eo h
theorem Ap{x0 x1 x2:Nat}(c:Nat)(h:lC c):lD c [x0,x1,x2] []:=Eo h
theorem TB{x0 x1 x2:Nat}{z0:Int}(c:Nat)(h:lC c):lD c [x0,x1,x2] [z0]:=Eo h
theorem I4{x0 x1 x2:Nat}{z0 z1:Int}(c:Nat)(h:lC c):lD c [x0,x1,x2] [z0,z1]:=Eo h
theorem A7{x0 x1 x2 x3:Nat}(c:Nat)(h:lC c):lD c [x0,x1,x2,x3] []:=Eo h
theorem Zx{x0 x1 x2 x3:Nat}{z0:Int}(c:Nat)(h:lC c):lD c [x0,x1,x2,x3] [z0]:=Eo h
theorem AW{x0 x1 x2 x3 x4:Nat}(c:Nat)(h:lC c):lD c [x0,x1,x2,x3,x4] []:=Eo h
theorem Dy{x0 x1 x2 x3 x4 x5:Nat}(c:Nat)(h:lC c):lD c [x0,x1,x2,x3,x4,x5] []:=Eo h
theorem T7{x0 x1 x2 x3 x4 x5 x6:Nat}(c:Nat)(h:lC c):lD c [x0,x1,x2,x3,x4,x5,x6] []:=Eo h
theorem Ck{P:Prop}(h:false=true):P:=nomatch h
theorem Az{α:Type _}{a:α}{P:Prop}(h:none=some a):P:=nomatch h
theorem Ef{α:Type _}{a:α}{P:Prop}(h:some a=none):P:=nomatch h
theorem As{α:Type _}{a b:α}{P:Prop}(k:a=b->P)(h:some a=some b):P:=k (Option.some.inj h)
theorem FI{α:Type _}{β:Type _}{a b:α}{c d:β}{P:Prop}(k:a=b->c=d->P)(h:(a,c)=(b,d)):P:=k (Prod.mk.inj h).1 (Prod.mk.inj h).2
theorem AO{α:Type _}{β:Type _}{a b:α}{c d:β}{P:Prop}(k:a=b->c=d->P)(h:some (a,c)=some (b,d)):P:=As (FI k) h
theorem DG{p0 p1 p2:Prop}{C:Prop}(h:p0/\p1/\p2)(k:p0->p1->p2->C):C:=k h.1 h.2.1 h.2.2
theorem Rk{p0 p1 p2:Prop}{C:Prop}(k:p0->p1->p2->C)(h:p0/\p1/\p2):C:=DG h k
theorem Po{α:Sort _}{p0:Prop}{p1:α->Prop}{C:Prop}(h:p0/\∃a,p1 a)(k:p0->∀a,p1 a->C):C:=h.2.elim λa w1=>k h.1 a w1
theorem Ak{α:Sort _}{p0 p1:α->Prop}{C:Prop}(h:∃a,p0 a/\p1 a)(k:∀a,p0 a->p1 a->C):C:=h.elim λa w2=>k a w2.1 w2.2
theorem Cw{α:Sort _}{p0 p1:α->Prop}{C:Prop}(k:∀a,p0 a->p1 a->C)(h:∃a,p0 a/\p1 a):C:=Ak h k
theorem EU{α:Sort _}{β:Sort _}{p0:α->β->Prop}{C:Prop}(h:∃a,∃b,p0 a b)(k:∀a,∀b,p0 a b->C):C:=h.elim λa w2=>w2.elim λb w1=>k a b w1
theorem oX{α:Sort _}{β:Sort _}{p0:α->β->Prop}{C:Prop}(k:∀a,∀b,p0 a b->C)(h:∃a,∃b,p0 a b):C:=EU h k
theorem IV{p0 p1 p2 p3:Prop}{C:Prop}(h:p0/\p1/\p2/\p3)(k:p0->p1->p2->p3->C):C:=DG h.2 (k h.1)
theorem Ni{p0 p1 p2 p3:Prop}{C:Prop}(k:p0->p1->p2->p3->C)(h:p0/\p1/\p2/\p3):C:=IV h k
theorem Pq{α:Sort _}{p0 p1:Prop}{p2:α->Prop}{C:Prop}(h:p0/\p1/\∃a,p2 a)(k:p0->p1->∀a,p2 a->C):C:=Po h.2 (k h.1)
theorem Kn{α:Sort _}{p0:Prop}{p1 p2:α->Prop}{C:Prop}(h:p0/\∃a,p1 a/\p2 a)(k:p0->∀a,p1 a->p2 a->C):C:=Ak h.2 (k h.1)
theorem nI{α:Sort _}{β:Sort _}{p0:Prop}{p1:α->β->Prop}{C:Prop}(h:p0/\∃a,∃b,p1 a b)(k:p0->∀a,∀b,p1 a b->C):C:=EU h.2 (k h.1)
theorem cO{α:Sort _}{β:Sort _}{p0:Prop}{p1:α->β->Prop}{C:Prop}(k:p0->∀a,∀b,p1 a b->C)(h:p0/\∃a,∃b,p1 a b):C:=nI h k
theorem Cf{α:Sort _}{p0 p1 p2:α->Prop}{C:Prop}(h:∃a,p0 a/\p1 a/\p2 a)(k:∀a,p0 a->p1 a->p2 a->C):C:=h.elim λa w3=>DG w3 (k a)
theorem Rm{α:Sort _}{p0 p1 p2:α->Prop}{C:Prop}(k:∀a,p0 a->p1 a->p2 a->C)(h:∃a,p0 a/\p1 a/\p2 a):C:=Cf h k
theorem Qy{α:Sort _}{β:Sort _}{p0:α->Prop}{p1:α->β->Prop}{C:Prop}(h:∃a,p0 a/\∃b,p1 a b)(k:∀a,p0 a->∀b,p1 a b->C):C:=h.elim λa w3=>Po w3 (k a)
theorem Dc{α:Sort _}{β:Sort _}{p0 p1:α->β->Prop}{C:Prop}(h:∃a,∃b,p0 a b/\p1 a b)(k:∀a,∀b,p0 a b->p1 a b->C):C:=h.elim λa w3=>Ak w3 (k a)
theorem Sy{α:Sort _}{β:Sort _}{p0 p1:α->β->Prop}{C:Prop}(k:∀a,∀b,p0 a b->p1 a b->C)(h:∃a,∃b,p0 a b/\p1 a b):C:=Dc h k
theorem Wj{α:Sort _}{β:Sort _}{γ:Sort _}{p0:α->β->γ->Prop}{C:Prop}(h:∃a,∃b,∃c,p0 a b c)(k:∀a,∀b,∀c,p0 a b c->C):C:=h.elim λa w3=>EU w3 (k a)
theorem iY{α:Sort _}{β:Sort _}{γ:Sort _}{p0:α->β->γ->Prop}{C:Prop}(k:∀a,∀b,∀c,p0 a b c->C)(h:∃a,∃b,∃c,p0 a b c):C:=Wj h k
theorem Kb{p0 p1 p2 p3 p4:Prop}{C:Prop}(h:p0/\p1/\p2/\p3/\p4)(k:p0->p1->p2->p3->p4->C):C:=IV h.2 (k h.1)
theorem SN{p0 p1 p2 p3 p4:Prop}{C:Prop}(k:p0->p1->p2->p3->p4->C)(h:p0/\p1/\p2/\p3/\p4):C:=Kb h k
theorem UB{α:Sort _}{p0:Prop}{p1 p2 p3:α->Prop}{C:Prop}(h:p0/\∃a,p1 a/\p2 a/\p3 a)(k:p0->∀a,p1 a->p2 a->p3 a->C):C:=Cf h.2 (k h.1)
theorem Ir{α:Sort _}{p0 p1 p2 p3:α->Prop}{C:Prop}(h:∃a,p0 a/\p1 a/\p2 a/\p3 a)(k:∀a,p0 a->p1 a->p2 a->p3 a->C):C:=h.elim λa w4=>IV w4 (k a)
theorem WI{α:Sort _}{p0 p1 p2 p3:α->Prop}{C:Prop}(k:∀a,p0 a->p1 a->p2 a->p3 a->C)(h:∃a,p0 a/\p1 a/\p2 a/\p3 a):C:=Ir h k
theorem GV{α:Sort _}{β:Sort _}{p0 p1 p2:α->β->Prop}{C:Prop}(h:∃a,∃b,p0 a b/\p1 a b/\p2 a b)(k:∀a,∀b,p0 a b->p1 a b->p2 a b->C):C:=h.elim λa w4=>Cf w4 (k a)
theorem Ma{α:Sort _}{β:Sort _}{p0 p1 p2:α->β->Prop}{C:Prop}(k:∀a,∀b,p0 a b->p1 a b->p2 a b->C)(h:∃a,∃b,p0 a b/\p1 a b/\p2 a b):C:=GV h k
theorem DS{α:Sort _}{β:Sort _}{γ:Sort _}{p0 p1:α->β->γ->Prop}{C:Prop}(h:∃a,∃b,∃c,p0 a b c/\p1 a b c)(k:∀a,∀b,∀c,p0 a b c->p1 a b c->C):C:=h.elim λa w4=>Dc w4 (k a)
theorem TD{α:Sort _}{β:Sort _}{γ:Sort _}{p0 p1:α->β->γ->Prop}{C:Prop}(k:∀a,∀b,∀c,p0 a b c->p1 a b c->C)(h:∃a,∃b,∃c,p0 a b c/\p1 a b c):C:=DS h k
theorem MW{α:Sort _}{β:Sort _}{γ:Sort _}{δ:Sort _}{p0:α->β->γ->δ->Prop}{C:Prop}(h:∃a,∃b,∃c,∃d,p0 a b c d)(k:∀a,∀b,∀c,∀d,p0 a b c d->C):C:=h.elim λa w4=>Wj w4 (k a)
theorem nT{α:Sort _}{p0 p1 p2:Prop}{p3 p4:α->Prop}{C:Prop}(h:p0/\p1/\p2/\∃a,p3 a/\p4 a)(k:p0->p1->p2->∀a,p3 a->p4 a->C):C:=Kn h.2.2 (k h.1 h.2.1)
theorem Ql{α:Sort _}{p0 p1 p2 p3 p4:α->Prop}{C:Prop}(h:∃a,p0 a/\p1 a/\p2 a/\p3 a/\p4 a)(k:∀a,p0 a->p1 a->p2 a->p3 a->p4 a->C):C:=h.elim λa w5=>Kb w5 (k a)
theorem Fe{α:Sort _}{β:Sort _}{p0 p1 p2 p3:α->β->Prop}{C:Prop}(h:∃a,∃b,p0 a b/\p1 a b/\p2 a b/\p3 a b)(k:∀a,∀b,p0 a b->p1 a b->p2 a b->p3 a b->C):C:=h.elim λa w5=>Ir w5 (k a)
theorem DO{α:Sort _}{β:Sort _}{p0 p1 p2 p3:α->β->Prop}{C:Prop}(k:∀a,∀b,p0 a b->p1 a b->p2 a b->p3 a b->C)(h:∃a,∃b,p0 a b/\p1 a b/\p2 a b/\p3 a b):C:=Fe h k
theorem EW{α:Sort _}{β:Sort _}{γ:Sort _}{p0 p1 p2:α->β->γ->Prop}{C:Prop}(h:∃a,∃b,∃c,p0 a b c/\p1 a b c/\p2 a b c)(k:∀a,∀b,∀c,p0 a b c->p1 a b c->p2 a b c->C):C:=h.elim λa w5=>GV w5 (k a)
theorem fT{α:Sort _}{β:Sort _}{γ:Sort _}{p0 p1 p2:α->β->γ->Prop}{C:Prop}(k:∀a,∀b,∀c,p0 a b c->p1 a b c->p2 a b c->C)(h:∃a,∃b,∃c,p0 a b c/\p1 a b c/\p2 a b c):C:=EW h k
theorem Jj{α:Sort _}{β:Sort _}{γ:Sort _}{δ:Sort _}{p0 p1:α->β->γ->δ->Prop}{C:Prop}(h:∃a,∃b,∃c,∃d,p0 a b c d/\p1 a b c d)(k:∀a,∀b,∀c,∀d,p0 a b c d->p1 a b c d->C):C:=h.elim λa w5=>DS w5 (k a)
theorem j0{α:Sort _}{β:Sort _}{γ:Sort _}{δ:Sort _}{ε:Sort _}{p0:α->β->γ->δ->ε->Prop}{C:Prop}(h:∃a,∃b,∃c,∃d,∃e,p0 a b c d e)(k:∀a,∀b,∀c,∀d,∀e,p0 a b c d e->C):C:=h.elim λa w5=>MW w5 (k a)
theorem eO{α:Sort _}{p0 p1 p2 p3 p4:Prop}{p5:α->Prop}{C:Prop}(h:p0/\p1/\p2/\p3/\p4/\∃a,p5 a)(k:p0->p1->p2->p3->p4->∀a,p5 a->C):C:=Pq h.2.2.2 (k h.1 h.2.1 h.2.2.1)
theorem YP{α:Sort _}{p0 p1 p2 p3 p4:Prop}{p5:α->Prop}{C:Prop}(k:p0->p1->p2->p3->p4->∀a,p5 a->C)(h:p0/\p1/\p2/\p3/\p4/\∃a,p5 a):C:=eO h k
theorem Wb{α:Sort _}{β:Sort _}{p0:Prop}{p1 p2 p3 p4:α->β->Prop}{C:Prop}(h:p0/\∃a,∃b,p1 a b/\p2 a b/\p3 a b/\p4 a b)(k:p0->∀a,∀b,p1 a b->p2 a b->p3 a b->p4 a b->C):C:=Fe h.2 (k h.1)
theorem M8{α:Sort _}{β:Sort _}{p0 p1 p2 p3 p4:α->β->Prop}{C:Prop}(h:∃a,∃b,p0 a b/\p1 a b/\p2 a b/\p3 a b/\p4 a b)(k:∀a,∀b,p0 a b->p1 a b->p2 a b->p3 a b->p4 a b->C):C:=h.elim λa w6=>Ql w6 (k a)
theorem cD{α:Sort _}{β:Sort _}{p0 p1 p2 p3 p4:α->β->Prop}{C:Prop}(k:∀a,∀b,p0 a b->p1 a b->p2 a b->p3 a b->p4 a b->C)(h:∃a,∃b,p0 a b/\p1 a b/\p2 a b/\p3 a b/\p4 a b):C:=M8 h k
theorem D3{α:Sort _}{β:Sort _}{γ:Sort _}{p0 p1 p2 p3:α->β->γ->Prop}{C:Prop}(h:∃a,∃b,∃c,p0 a b c/\p1 a b c/\p2 a b c/\p3 a b c)(k:∀a,∀b,∀c,p0 a b c->p1 a b c->p2 a b c->p3 a b c->C):C:=h.elim λa w6=>Fe w6 (k a)
theorem Wv{α:Sort _}{β:Sort _}{γ:Sort _}{δ:Sort _}{p0 p1:α->Prop}{p2 p3:α->β->γ->δ->Prop}{C:Prop}(h:∃a,p0 a/\p1 a/\∃b,∃c,∃d,p2 a b c d/\p3 a b c d)(k:∀a,p0 a->p1 a->∀b,∀c,∀d,p2 a b c d->p3 a b c d->C):C:=h.elim λa w7=>DS w7.2.2 (k a w7.1 w7.2.1)
theorem Fo{α:Sort _}{β:Sort _}{γ:Sort _}{p0 p1 p2 p3 p4:α->β->γ->Prop}{C:Prop}(h:∃a,∃b,∃c,p0 a b c/\p1 a b c/\p2 a b c/\p3 a b c/\p4 a b c)(k:∀a,∀b,∀c,p0 a b c->p1 a b c->p2 a b c->p3 a b c->p4 a b c->C):C:=h.elim λa w7=>M8 w7 (k a)
theorem SV{α:Sort _}{β:Sort _}{γ:Sort _}{δ:Sort _}{p0 p1 p2 p3:α->β->γ->δ->Prop}{C:Prop}(h:∃a,∃b,∃c,∃d,p0 a b c d/\p1 a b c d/\p2 a b c d/\p3 a b c d)(k:∀a,∀b,∀c,∀d,p0 a b c d->p1 a b c d->p2 a b c d->p3 a b c d->C):C:=h.elim λa w7=>D3 w7 (k a)
theorem oW{α:Sort _}{β:Sort _}{γ:Sort _}{δ:Sort _}{p0 p1 p2 p3:α->β->γ->δ->Prop}{C:Prop}(k:∀a,∀b,∀c,∀d,p0 a b c d->p1 a b c d->p2 a b c d->p3 a b c d->C)(h:∃a,∃b,∃c,∃d,p0 a b c d/\p1 a b c d/\p2 a b c d/\p3 a b c d):C:=SV h k
theorem UZ{α:Sort _}{β:Sort _}{γ:Sort _}{δ:Sort _}{ε:Sort _}{ζ:Sort _}{p0 p1:α->β->γ->δ->ε->ζ->Prop}{C:Prop}(h:∃a,∃b,∃c,∃d,∃e,∃f,p0 a b c d e f/\p1 a b c d e f)(k:∀a,∀b,∀c,∀d,∀e,∀f,p0 a b c d e f->p1 a b c d e f->C):C:=h.elim λa w7=>w7.elim λb w6=>Jj w6 (k a b)
theorem Qa{α:Sort _}{β:Sort _}{γ:Sort _}{δ:Sort _}{p0 p1:α->Prop}{p2 p3 p4:α->β->γ->δ->Prop}{C:Prop}(h:∃a,p0 a/\p1 a/\∃b,∃c,∃d,p2 a b c d/\p3 a b c d/\p4 a b c d)(k:∀a,p0 a->p1 a->∀b,∀c,∀d,p2 a b c d->p3 a b c d->p4 a b c d->C):C:=h.elim λa w8=>EW w8.2.2 (k a w8.1 w8.2.1)
theorem Ui{α:Sort _}{β:Sort _}{γ:Sort _}{p0 p1 p2:α->β->Prop}{p3 p4 p5:α->β->γ->Prop}{C:Prop}(h:∃a,∃b,p0 a b/\p1 a b/\p2 a b/\∃c,p3 a b c/\p4 a b c/\p5 a b c)(k:∀a,∀b,p0 a b->p1 a b->p2 a b->∀c,p3 a b c->p4 a b c->p5 a b c->C):C:=h.elim λa w8=>w8.elim λb w7=>UB w7.2.2 (k a b w7.1 w7.2.1)
theorem MS{α:Sort _}{β:Sort _}{γ:Sort _}{δ:Sort _}{p0 p1 p2 p3 p4:α->β->γ->δ->Prop}{C:Prop}(h:∃a,∃b,∃c,∃d,p0 a b c d/\p1 a b c d/\p2 a b c d/\p3 a b c d/\p4 a b c d)(k:∀a,∀b,∀c,∀d,p0 a b c d->p1 a b c d->p2 a b c d->p3 a b c d->p4 a b c d->C):C:=h.elim λa w8=>Fo w8 (k a)
theorem kS{α:Sort _}{β:Sort _}{γ:Sort _}{δ:Sort _}{ε:Sort _}{ζ:Sort _}{η:Sort _}{p0:α->β->γ->δ->ε->ζ->Prop}{p1:α->β->γ->δ->ε->ζ->η->Prop}{C:Prop}(h:∃a,∃b,∃c,∃d,∃e,∃f,p0 a b c d e f/\∃g,p1 a b c d e f g)(k:∀a,∀b,∀c,∀d,∀e,∀f,p0 a b c d e f->∀g,p1 a b c d e f g->C):C:=h.elim λa w8=>w8.elim λb w7=>w7.elim λc w6=>w6.elim λd w5=>w5.elim λe w4=>Qy w4 (k a b c d e)
theorem UR{α:Sort _}{β:Sort _}{γ:Sort _}{δ:Sort _}{ε:Sort _}{ζ:Sort _}{η:Sort _}{p0 p1:α->β->γ->δ->ε->ζ->η->Prop}{C:Prop}(h:∃a,∃b,∃c,∃d,∃e,∃f,∃g,p0 a b c d e f g/\p1 a b c d e f g)(k:∀a,∀b,∀c,∀d,∀e,∀f,∀g,p0 a b c d e f g->p1 a b c d e f g->C):C:=h.elim λa w8=>UZ w8 (k a)
theorem S8{α:Sort _}{β:Sort _}{γ:Sort _}{δ:Sort _}{ε:Sort _}{ζ:Sort _}{η:Sort _}{p0 p1:α->β->γ->δ->ε->ζ->η->Prop}{C:Prop}(k:∀a,∀b,∀c,∀d,∀e,∀f,∀g,p0 a b c d e f g->p1 a b c d e f g->C)(h:∃a,∃b,∃c,∃d,∃e,∃f,∃g,p0 a b c d e f g/\p1 a b c d e f g):C:=UR h k
theorem SJ{α:Sort _}{β:Sort _}{γ:Sort _}{δ:Sort _}{p0 p1:α->Prop}{p2 p3 p4 p5:α->β->γ->δ->Prop}{C:Prop}(h:∃a,p0 a/\p1 a/\∃b,∃c,∃d,p2 a b c d/\p3 a b c d/\p4 a b c d/\p5 a b c d)(k:∀a,p0 a->p1 a->∀b,∀c,∀d,p2 a b c d->p3 a b c d->p4 a b c d->p5 a b c d->C):C:=h.elim λa w9=>D3 w9.2.2 (k a w9.1 w9.2.1)
theorem pJ{α:Sort _}{β:Sort _}{p0 p1 p2 p3 p4 p5 p6 p7:α->β->Prop}{C:Prop}(h:∃a,∃b,p0 a b/\p1 a b/\p2 a b/\p3 a b/\p4 a b/\p5 a b/\p6 a b/\p7 a b)(k:∀a,∀b,p0 a b->p1 a b->p2 a b->p3 a b->p4 a b->p5 a b->p6 a b->p7 a b->C):C:=h.elim λa w9=>w9.elim λb w8=>Kb w8.2.2.2 (k a b w8.1 w8.2.1 w8.2.2.1)
theorem Ro{α:Sort _}{β:Sort _}{γ:Sort _}{δ:Sort _}{p0 p1 p2 p3 p4 p5:α->β->γ->δ->Prop}{C:Prop}(h:∃a,∃b,∃c,∃d,p0 a b c d/\p1 a b c d/\p2 a b c d/\p3 a b c d/\p4 a b c d/\p5 a b c d)(k:∀a,∀b,∀c,∀d,p0 a b c d->p1 a b c d->p2 a b c d->p3 a b c d->p4 a b c d->p5 a b c d->C):C:=h.elim λa w9=>w9.elim λb w8=>w8.elim λc w7=>w7.elim λd w6=>Kb w6.2 (k a b c d w6.1)
theorem Ud{α:Sort _}{β:Sort _}{γ:Sort _}{δ:Sort _}{p0 p1:α->Prop}{p2 p3 p4 p5 p6:α->β->γ->δ->Prop}{C:Prop}(h:∃a,p0 a/\p1 a/\∃b,∃c,∃d,p2 a b c d/\p3 a b c d/\p4 a b c d/\p5 a b c d/\p6 a b c d)(k:∀a,p0 a->p1 a->∀b,∀c,∀d,p2 a b c d->p3 a b c d->p4 a b c d->p5 a b c d->p6 a b c d->C):C:=h.elim λa H8=>Fo H8.2.2 (k a H8.1 H8.2.1)
theorem jQ{α:Sort _}{β:Sort _}{γ:Sort _}{δ:Sort _}{ε:Sort _}{ζ:Sort _}{η:Sort _}{p0 p1 p2:α->β->γ->δ->ε->ζ->Prop}{p3:α->β->γ->δ->ε->ζ->η->Prop}{C:Prop}(h:∃a,∃b,∃c,∃d,∃e,∃f,p0 a b c d e f/\p1 a b c d e f/\p2 a b c d e f/\∃g,p3 a b c d e f g)(k:∀a,∀b,∀c,∀d,∀e,∀f,p0 a b c d e f->p1 a b c d e f->p2 a b c d e f->∀g,p3 a b c d e f g->C):C:=h.elim λa H8=>H8.elim λb w9=>w9.elim λc w8=>w8.elim λd w7=>w7.elim λe w6=>w6.elim λf w5=>Pq w5.2 (k a b c d e f w5.1)
theorem dY{α:Sort _}{β:Sort _}{γ:Sort _}{δ:Sort _}{ε:Sort _}{ζ:Sort _}{η:Sort _}{θ:Sort _}{ι:Sort _}{p0 p1:α->β->γ->δ->ε->ζ->η->θ->ι->Prop}{C:Prop}(h:∃a,∃b,∃c,∃d,∃e,∃f,∃g,∃h,∃i,p0 a b c d e f g h i/\p1 a b c d e f g h i)(k:∀a,∀b,∀c,∀d,∀e,∀f,∀g,∀h,∀i,p0 a b c d e f g h i->p1 a b c d e f g h i->C):C:=h.elim λa H8=>H8.elim λb w9=>UR w9 (k a b)
theorem oS{α:Sort _}{β:Sort _}{γ:Sort _}{δ:Sort _}{ε:Sort _}{ζ:Sort _}{η:Sort _}{θ:Sort _}{ι:Sort _}{p0 p1:α->β->γ->δ->ε->ζ->η->θ->ι->Prop}{C:Prop}(k:∀a,∀b,∀c,∀d,∀e,∀f,∀g,∀h,∀i,p0 a b c d e f g h i->p1 a b c d e f g h i->C)(h:∃a,∃b,∃c,∃d,∃e,∃f,∃g,∃h,∃i,p0 a b c d e f g h i/\p1 a b c d e f g h i):C:=dY h k
theorem dB{α:Sort _}{β:Sort _}{γ:Sort _}{δ:Sort _}{ε:Sort _}{ζ:Sort _}{η:Sort _}{θ:Sort _}{ι:Sort _}{p0 p1 p2:α->β->γ->δ->ε->ζ->η->θ->ι->Prop}{C:Prop}(h:∃a,∃b,∃c,∃d,∃e,∃f,∃g,∃h,∃i,p0 a b c d e f g h i/\p1 a b c d e f g h i/\p2 a b c d e f g h i)(k:∀a,∀b,∀c,∀d,∀e,∀f,∀g,∀h,∀i,p0 a b c d e f g h i->p1 a b c d e f g h i->p2 a b c d e f g h i->C):C:=h.elim λa uW=>uW.elim λb H8=>H8.elim λc w9=>w9.elim λd w8=>w8.elim λe w7=>w7.elim λf w6=>EW w6 (k a b c d e f)
theorem g9{α:Sort _}{β:Sort _}{γ:Sort _}{δ:Sort _}{ε:Sort _}{ζ:Sort _}{η:Sort _}{θ:Sort _}{ι:Sort _}{p0 p1 p2:α->β->γ->δ->ε->ζ->η->θ->ι->Prop}{C:Prop}(k:∀a,∀b,∀c,∀d,∀e,∀f,∀g,∀h,∀i,p0 a b c d e f g h i->p1 a b c d e f g h i->p2 a b c d e f g h i->C)(h:∃a,∃b,∃c,∃d,∃e,∃f,∃g,∃h,∃i,p0 a b c d e f g h i/\p1 a b c d e f g h i/\p2 a b c d e f g h i):C:=dB h k
theorem T0{P:Prop}(h:true=false):P:=nomatch h
set_option backward.match.sparseCases false
inductive AV where
 |none
 |bool (b:Bool)
 |int (i:Int)
 |str (s:Str)
 |tup (xs:List AV)
 |list (xs:List AV)
 |ol (xs:List AV)
 |lex (line:Int) (push signs:List AV)
 |cit (live:Bool)
 |clo (sc:Scope) (ps:Arguments) (body:PySem.Expr) (caught:List (Str×AV))
 |raw (a:Nat)
namespace AV
noncomputable def bool?:AV->Option Bool
 |.bool b=>some b
 |_=>Option.none
noncomputable def int?:AV->Option Int
 |.int b=>some b
 |_=>Option.none
noncomputable def str?:AV->Option Str
 |.str b=>some b
 |_=>Option.none
noncomputable def tup?:AV->Option (List AV)
 |.tup b=>some b
 |_=>Option.none
noncomputable def list?:AV->Option (List AV)
 |.list b=>some b
 |_=>Option.none
noncomputable def ol?:AV->Option (List AV)
 |.ol b=>some b
 |_=>Option.none
noncomputable def lex?:AV->Option (Int×List AV×List AV)
 |.lex l q s=>some (l,q,s)
 |_=>Option.none
noncomputable def cit?:AV->Option Bool
 |.cit b=>some b
 |_=>Option.none
noncomputable def clo?:AV->Option (Scope×Arguments×PySem.Expr×List (Str×AV))
 |.clo s p b c=>some (s,p,b,c)
 |_=>Option.none
noncomputable def none?:AV->Bool
 |.none=>true
 |_=>false
noncomputable def free:AV->Bool
 |.ol _=>false
 |.lex .. =>false
 |.cit _=>false
 |.clo .. =>false
 |.raw _=>false
 |_=>true
noncomputable def flat:AV->Bool
 |.none=>true
 |.bool _=>true
 |.int _=>true
 |.str _=>true
 |_=>false
end AV
structure R where
 vars:List (Str×AV)
 shut:Str->Bool
inductive Fl where
 |next
 |cont
 |ret (v:AV)
noncomputable def st:List (Str×AV)->Str->AV->List (Str×AV)
 |[],x,v=>[(x,v)]
 |(y,w)::r,x,v=>if y=x then(y,v)::r else(y,w)::st r x v
noncomputable def R.set(ρ:R)(x:Str)(v:AV):R:=⟨st ρ.vars x v,ρ.shut⟩
noncomputable def R.get(ρ:R)(x:Str):Option AV:=ρ.vars.lookup x
noncomputable def AG(b:Bool):Option Unit:=if b=true then some () else none
noncomputable def EF{α:Type}:List α->Option α
 |[a]=>some a
 |_=>none
noncomputable def JR{α:Type}:List α->Option (α×α)
 |[a,b]=>some (a,b)
 |_=>none
noncomputable def GS{α β:Type}(f:α->Option β):List α->Option (List β)
 |[]=>some []
 |a::r=>do
  let x <-f a
  let y <-GS f r
  some (x::y)
noncomputable def Gk:Nat->AV->Option PyData
 |0,_=>none
 |n+1,v=>match v with
  |.none=>some .none
  |.bool b=>some (.bool b)
  |.int i=>some (.int i)
  |.str s=>some (.str s)
  |.tup xs=>(GS (Gk n) xs).map .tuple
  |.list xs=>(GS (Gk n) xs).map .list
  |_=>none
noncomputable def LK(v:AV):Option PyData:=do
 let d <-Gk 5 v
 AG (SeqAt.shaped d)
 some d
noncomputable def IL(a b:AV):Option Bool:=match a.int? with
 |some x=>do let y <-b.int?;some (x==y)
 |none=>match a.str? with
  |some x=>do let y <-b.str?;some (x==y)
  |none=>do
   let d <-LK a
   let e <-LK b
   some (PyData.eqv d e)
noncomputable def Bg:Nat:=100000
noncomputable def Zq(a b:AV):Option Bool:=match a with
 |.int x=>do let y <-b.int?;some (decide (x<y))
 |.bool x=>do let y <-b.bool?;some (!x&&y)
 |_=>none
noncomputable def F3(a b:AV):Option Bool:=match b with
 |.str x=>do let y <-a.str?;some (Txt.contains x y)
 |.list xs=>do
  let d <-LK a
  let ds <-GS (Gk 4) xs
  AG (PyData.canLayAll0 ds)
  some (ds.any λy=>PyData.eqv y d)
 |_=>none
noncomputable def PM(a b:AV):Option Bool:=match a with
 |.none=>do AG b.none?;some true
 |.int _=>do AG b.none?;some false
 |.bool x=>do let y <-b.bool?;some (x==y)
 |_=>none
noncomputable def Du(op:CmpOp)(a b:AV):Option Bool:=match op with
 |.Eq=>IL a b
 |.NotEq=>(IL a b).map (!·)
 |.Lt=>Zq a b
 |.Gt=>do let x <-a.int?;let y <-b.int?;some (decide (y<x))
 |.In=>F3 a b
 |.NotIn=>(F3 a b).map (!·)
 |.Is=>PM a b
 |.IsNot=>(PM a b).map (!·)
 |_=>none
noncomputable def Ww(a b:AV):Option AV:=match a with
 |.int x=>do let y <-b.int?;some (.int (x+y))
 |.str x=>do let y <-b.str?;AG (decide (x.length+y.length<=Bg));some (.str (x++y))
 |.list x=>do let y <-b.list?;AG (decide (x.length+y.length<=Bg));some (.list (x++y))
 |_=>none
noncomputable def CG(op:Operator)(a b:AV):Option AV:=match op with
 |.Add=>Ww a b
 |.Sub=>do let x <-a.int?;let y <-b.int?;some (.int (x - y))
 |.FloorDiv=>do let x <-a.int?;let y <-b.int?;AG (decide (0<y/\y<1000));some (.int (x.fdiv y))
 |.Mod=>do let x <-a.int?;let y <-b.int?;AG (decide (0<y/\y<1000));some (.int (x.fmod y))
 |.Mult=>do let x <-a.str?;let y <-b.int?;AG (decide (-1000<=y/\y<=1000/\x.length=1));some (.str (Txt.mul x y))
 |_=>none
noncomputable def Gy(op:Operator)(a b:AV):Option AV:=match op with
 |.Add=>match a with
  |.int x=>do let y <-b.int?;some (.int (x+y))
  |.str x=>do let y <-b.str?;AG (decide (x.length+y.length<=Bg));some (.str (x++y))
  |_=>none
 |.Sub=>do let x <-a.int?;let y <-b.int?;some (.int (x - y))
 |_=>none
noncomputable def GK(xs:List AV)(lo hi CS:Option Int):List AV:=
 (sliceRange (sliceBounds lo hi CS xs.length).1 (sliceBounds lo hi CS xs.length).2.1 (sliceBounds lo hi CS xs.length).2.2).filterMap (xs[·]?)
noncomputable def D5(o:AV)(lo hi CS:Option Int):Option AV:=match o with
 |.list xs=>do AG (decide (xs.length<=Bg));some (.list (GK xs lo hi CS))
 |.str x=>do AG (CS.isNone&&decide (x.length<=Bg));some (.str (Txt.slice x lo hi))
 |_=>none
noncomputable def El(o i:AV):Option AV:=do
 let k <-i.int?
 AG (decide (0<=k/\k<100000))
 match o with
 |.list xs=>xs[k.toNat]?
 |.tup xs=>xs[k.toNat]?
 |.str s=>(s.cps[k.toNat]?).map λc=>.str ⟨#[c]⟩
 |_=>none
noncomputable def Re:AV->Option Nat
 |.list xs=>some xs.length
 |.str s=>some s.length
 |_=>none
noncomputable def HM:List AV->Option (List Str)
 |[]=>some []
 |a::r=>do let s <-a.str?;let t <-HM r;some (s::t)
noncomputable def Hw:List AV->Option (List Int)
 |[]=>some []
 |a::r=>do let s <-a.int?;let t <-Hw r;some (s::t)
noncomputable def signsOf(s:Str):List AV:=s.cps.toList.map λc=>.str ⟨#[c]⟩
noncomputable def Cv:Nat->Bool->List Nat->List AV
 |_,false,[]=>[]
 |p,true,[]=>[.tup [.int ((p:Int) - 1),.str ⟨#[92]⟩]]
 |p,true,c::r=>.tup [.int p,.str ⟨#[92,c]⟩]::Cv (p+1) false r
 |p,false,c::r=>if c=92 then Cv (p+1) true r else .tup [.int p,.str ⟨#[c]⟩]::Cv (p+1) false r
noncomputable def pikk{α:Type}{p:α->Prop}(o:Option (PSigma p)):Option α:=Option.rec none (λz=>some z.1) o
theorem FD{α:Type}{p:α->Prop}{o:Option (PSigma p)}{a:α}(h:pikk o=some a):p a:=by
 cases o with
 |none=>exact Az h
 |some z=>exact Option.some.inj h▸z.2
theorem Wr{α:Type}{p:α->Prop}{o:Option (PSigma p)}(h:(pikk o).isSome=true):∃a,p a:=by
 cases o with
 |none=>exact Ck h
 |some z=>exact⟨z.1,z.2⟩
noncomputable def Eg(e:PySem.Expr):Option Str:=pikk (p:= λx=>∃p,e=.Name x p) (match e with
 |.Name x p=>some ⟨x,p,rfl⟩
 |_=>none)
noncomputable def IW(e:PySem.Expr):Option (PySem.Expr×Str×Pos):=pikk (p:= λt=>e=.Attribute t.1 t.2.1 t.2.2) (match e with
 |.Attribute o m p=>some ⟨(o,m,p),rfl⟩
 |_=>none)
noncomputable def G3(e:PySem.Expr):Option (PySem.Expr×List PySem.Expr×List Keyword×Pos):=pikk (p:= λt=>e=.Call t.1 t.2.1 t.2.2.1 t.2.2.2) (match e with
 |.Call f a k p=>some ⟨(f,a,k,p),rfl⟩
 |_=>none)
noncomputable def Lk(e:PySem.Expr):Option (Option PySem.Expr×Option PySem.Expr×Option PySem.Expr):=pikk (p:= λt=>∃q,e=.Slice t.1 t.2.1 t.2.2 q) (match e with
 |.Slice a b c q=>some ⟨(a,b,c),q,rfl⟩
 |_=>none)
noncomputable def ME(e:PySem.Expr):Option (List PySem.Expr):=pikk (p:= λes=>∃k p,e=.Tuple es k p) (match e with
 |.Tuple es k p=>some ⟨es,k,p,rfl⟩
 |_=>none)
noncomputable def PJ(e:PySem.Expr):Option Const:=pikk (p:= λk=>∃j p,e=.Constant k j p) (match e with
 |.Constant k j p=>some ⟨k,j,p,rfl⟩
 |_=>none)
noncomputable def BI:PySem.Expr->Bool
 |.Set .. =>false
 |.Starred .. =>false
 |.Slice .. =>false
 |_=>true
noncomputable def Ge:Const->Option AV
 |.none=>some .none
 |.bool b=>some (.bool b)
 |.int i=>some (.int i)
 |.str s=>some (.str s)
 |_=>none
noncomputable def JU(e:PySem.Expr):Option AV:=(PJ e).bind Ge
structure BG where
 ps:Arguments
 body:List Stmt
 sc:Scope
noncomputable def B4:List Stmt->Str->Option BG
 |[],_=>none
 |.FunctionDef n ps body _ _ _ sc _ _ _::r,x=>if n=x then some ⟨ps,body,sc⟩ else B4 r x
 |_::r,x=>B4 r x
noncomputable def CW:List Stmt->List Stmt
 |[]=>[]
 |.ClassDef _ _ _ body _ _ _ _ _ _ _::_=>body
 |_::r=>CW r
noncomputable def JY:List Stmt->Option (Arguments×PySem.Expr×Scope)
 |.Assign _ (.Lambda ps body sc _) _::_=>some (ps,body,sc)
 |_::r=>JY r
 |[]=>none
noncomputable def GW(ps:Arguments):Bool:=ps.posonlyargs.isEmpty&&ps.kwonlyargs.isEmpty&&ps.vararg.isNone&&ps.kwarg.isNone&&ps.defaults.isEmpty
noncomputable def MA:List Arg->List AV->Option (List (Str×AV))
 |[],[]=>some []
 |a::as,v::vs=>(MA as vs).map ((a.arg,v)::·)
 |_,_=>none
noncomputable def SO(pos:List AV)(key:AV):Option (List (Str×AV)):=match pos with
 |a::x::r=>match r with
  |[]=>some [("a",a),("x",x),("lo",.int 0),("hi",.none),("key",key)]
  |l::r=>match r with
   |[]=>some [("a",a),("x",x),("lo",l),("hi",.none),("key",key)]
   |h::r=>match r with
    |[]=>some [("a",a),("x",x),("lo",l),("hi",h),("key",key)]
    |_::_=>none
 |_=>none
noncomputable def U4(kw:List (Str×AV)):Option AV:=match kw with
 |[]=>some .none
 |p::r=>if p.1="key" then(if r.isEmpty then some p.2 else none) else none
noncomputable def D9(ps:Arguments)(pos:List AV)(kw:List (Str×AV)):Option (List (Str×AV)):=
 if GW ps then do
  AG kw.isEmpty
  MA ps.args pos
 else do
  let k <-U4 kw
  SO pos k
noncomputable def Na(ps:Arguments):Option Str:=do
 let a <-EF ps.args
 AG (GW ps&&(a.arg=="pair"||a.arg=="head"||a.arg=="size"))
 some a.arg
structure Ev where
 e:Scope->PySem.Expr->R->Option (AV×R)
 t:Scope->PySem.Expr->R->Option (Bool×R)
 ss:Scope->List Stmt->R->Option (Fl×R)
noncomputable def Ev.nil:Ev:=⟨λ_ _ _=>none,λ_ _ _=>none,λ_ _ _=>none⟩
noncomputable def bP(sc:Scope)(x:Str):Bool:=match sc.names.lookup x with
 |some .local=>true
 |some .cell=>true
 |some .free=>true
 |_=>false
noncomputable def BV(sc:Scope)(x:Str):Bool:=match sc.names.lookup x with
 |some .globalImplicit=>true
 |_=>false
noncomputable def Ay(scope:Scope)(x:Str):Bool:=match scope.names.lookup x with
 |some .free=>true
 |_=>false
theorem Ib{sc:Scope}{x:Str}(h:Ay sc x=true):sc.names.lookup x=some .free:=by
 unfold Ay at h
 revert h
 generalize sc.names.lookup x=o
 cases o with
 |none=>exact λh=>Ck h
 |some k=>cases k<;>first|exact λ_=>rfl|exact λh=>Ck h
noncomputable def DI(x:Str):Bool:=x=="__debug__"||x=="__classdict__"
noncomputable def Ca(sc:Scope)(x:Str)(ρ:R):Option AV:=if bP sc x&& !DI x then ρ.get x else none
noncomputable def Cs(sc:Scope)(e:PySem.Expr)(ρ:R):Option (Str×List AV):=do
 let x <-Eg e
 let v <-Ca sc x ρ
 let xs <-v.ol?
 some (x,xs)
noncomputable def UU(sc:Scope)(x:Str)(ρ:R):Option (AV×R):=do
 let v <-Ca sc x ρ
 match v.ol? with
 |some xs=>if x="self" then none else some (.list xs,ρ.set x (.list xs))
 |none=>if v.free then some (v,ρ) else none
noncomputable def oE:CmpOp->Bool
 |.Is=>true
 |_=>false
noncomputable def Ji(sc:Scope)(e:PySem.Expr)(ρ:R):Option (Scope×Arguments×PySem.Expr×List (Str×AV)):=do
 let x <-Eg e
 let v <-Ca sc x ρ
 v.clo?
noncomputable def Im(sc:Scope)(x:Str):Bool:=match sc.names.lookup x with
 |some .local=>true
 |_=>false
noncomputable def DF(sc:Scope):Option Str:=
 if Im sc "stream" then some "_law_lexer"
 else if Im sc "heads" then some "_law_lack"
 else if Im sc "turned"&&(sc.names.lookup ("script":Str)).isNone then some "_law_queue"
 else none
section
variable (r:Ev) (top:List Stmt) (W:Nat)
noncomputable def BZ(d:BG)(binds:List (Str×AV)):Option (AV×R):=do
 AG (!d.sc.isGenerator)
 let(f,ρ) <-r.ss d.sc d.body ⟨binds.reverse,λ_=>false⟩
 match f with
 |.ret v=>some (v,ρ)
 |.next=>some (.none,ρ)
 |.cont=>none
noncomputable def BL(f:Str)(pos:List AV)(kw:List (Str×AV)):Option (AV×R):=do
 let d <-B4 top f
 let b <-D9 d.ps pos kw
 BZ r d b
noncomputable def Fn(g:AV)(pos:List AV):Option AV:=do
 let(sc,ps,body,caught) <-g.clo?
 let x <-Na ps
 let v <-EF pos
 AG ((DF sc).isNone&&Im sc x&&sc.kind==.function&& !sc.isGenerator&& !sc.isCoroutine&&sc.names.all (λp=>p.2 != .cell)&&caught.all (λp=>Ay sc p.1))
 let(u,_) <-r.e sc body ⟨(x,v)::caught,λ_=>true⟩
 some u
noncomputable def BY(sc:Scope):List PySem.Expr->R->Option (List AV×R)
 |[],ρ=>some ([],ρ)
 |e::es,ρ=>do
  AG (BI e)
  let(v,ρ) <-r.e sc e ρ
  let(vs,ρ) <-BY sc es ρ
  some (v::vs,ρ)
noncomputable def CT(scope:Scope)(ρ:R):List (Str×AV):=ρ.vars.filter λp=>Ay scope p.1
noncomputable def seen(sc scope:Scope)(ρ:R):Bool:=scope.names.all λp=>match p.2 with
 |.free=>(ρ.get p.1).isSome&&(match sc.names.lookup p.1 with
  |some .cell=>true
  |some .free=>true
  |_=>false)
 |_=>true
noncomputable def NG(e:PySem.Expr):Option (Arguments×PySem.Expr×Scope):=pikk (p:= λt=>∃q,e=.Lambda t.1 t.2.1 t.2.2 q) (match e with
 |.Lambda ps body scope q=>some ⟨(ps,body,scope),q,rfl⟩
 |_=>none)
noncomputable def Qt(sc:Scope)(e:PySem.Expr)(ρ:R):Option (AV×R):=match NG e with
 |some (ps,body,scope)=>do
  AG ((CT scope ρ).all (λp=>p.2.free)&&(DF sc).isSome&&seen sc scope ρ&&ps.defaults.isEmpty&&ps.kw_defaults.isEmpty)
  some (.clo scope ps body (CT scope ρ),⟨ρ.vars,λ_=>true⟩)
 |none=>match Ji sc e ρ with
  |some (a,b,c,d)=>some (.clo a b c d,ρ)
  |none=>do
   AG (BI e)
   r.e sc e ρ
noncomputable def GU(sc:Scope)(ks:List Keyword)(ρ:R):Option (List (Str×AV)×R):=match ks with
 |[]=>some ([],ρ)
 |k::ks=>do
  AG ks.isEmpty
  let n <-k.arg
  let(v,ρ) <-Qt r sc k.value ρ
  some ([(n,v)],ρ)
noncomputable def j6(sc:Scope)(e:PySem.Expr)(ρ:R):Option (List AV×R):=do
 AG (BI e)
 let(v,ρ) <-r.e sc e ρ
 match v.list? with
 |some xs=>some (xs,ρ)
 |none=>do let s <-v.str?;some (signsOf s,ρ)
noncomputable def On(vs:List AV):Option (List AV):=match EF vs with
 |some a=>do
  let n <-a.int?
  AG (decide (-1000<=n/\n<=1000))
  some ((List.range n.toNat).map λ(k:Nat)=>.int (0+(k:Int)))
 |none=>do
  let(a,b) <-JR vs
  let m <-a.int?
  let n <-b.int?
  AG (decide (-1000<=m/\m<=1000/\ -1000<=n/\n<=1000))
  some ((List.range (n - m).toNat).map λ(k:Nat)=>.int (m+(k:Int)))
noncomputable def QB(sc:Scope)(e:PySem.Expr):Option (List PySem.Expr):=do
 let(f,args,AT,_) <-G3 e
 let x <-Eg f
 AG (BV sc x&&decide (x="range")&&AT.isEmpty&& !args.isEmpty)
 some args
noncomputable def Gq(sc:Scope)(e:PySem.Expr)(ρ:R):Option (List AV×R):=match QB sc e with
 |some args=>do
  let(vs,ρ) <-BY r sc args ρ
  let its <-On vs
  some (its,ρ)
 |none=>j6 r sc e ρ
noncomputable def JQ(sc:Scope)(e:PySem.Expr):Option (Str×PySem.Expr):=do
 let(f,args,AT,_) <-G3 e
 let x <-Eg f
 let a <-EF args
 AG (BV sc x&&(x=="enumerate"||x=="_iter_escaped_chars")&&AT.isEmpty&&BI a)
 some (x,a)
noncomputable def JZ(sc:Scope)(x:Str)(a:PySem.Expr)(ρ:R):Option (List AV×R):=do
 let(v,ρ) <-r.e sc a ρ
 if x="enumerate" then do
  let xs <-v.list?
  AG (decide (xs.length<=Bg))
  some (xs.zipIdx.map λp=>.tup [.int p.2,p.1],ρ)
 else do
  let s <-v.str?
  AG (decide (s.length<=Bg))
  some (Cv 0 false s.cps.toList,ρ)
noncomputable def Cy(sc:Scope)(x:Str)(v:AV)(ρ:R):Option R:=match sc.names.lookup x with
 |some .local=>some (ρ.set x v)
 |some .cell=>if ρ.shut x=true then none else some (ρ.set x v)
 |_=>none
noncomputable def L8(sc:Scope):List PySem.Expr->List AV->R->Option R
 |[],[],ρ=>some ρ
 |t::ts,v::vs,ρ=>do
  let x <-Eg t
  let ρ <-Cy sc x v ρ
  L8 sc ts vs ρ
 |_,_,_=>none
noncomputable def BS(sc:Scope)(t:PySem.Expr)(v:AV)(ρ:R):Option R:=match Eg t with
 |some x=>Cy sc x v ρ
 |none=>do
  let ts <-ME t
  let vs <-v.tup?
  L8 sc ts vs ρ
noncomputable def Qc(sc:Scope)(a:PySem.Expr)(EO:List CmpOp)(cs:List PySem.Expr)(ρ:R):Option (Bool×R):=do
 let op <-EF EO
 let b <-EF cs
 AG (!behindInMarks op b)
 match Ji sc a ρ with
 |some _=>do
  let v <-JU b
  AG (oE op&&v.none?)
  some (false,ρ)
 |none=>do
  let(x,ρ) <-r.e sc a ρ
  let(y,ρ) <-r.e sc b ρ
  let v <-Du op x y
  some (v,ρ)
noncomputable def VS(sc:Scope)(op:BoolOp)(vs:List PySem.Expr)(ρ:R):Option (Bool×R):=do
 let(a,b) <-JR vs
 let(x,ρ) <-r.t sc a ρ
 match op with
 |.Or=>if x=true then some (true,ρ) else r.t sc b ρ
 |.And=>if x=true then r.t sc b ρ else some (false,ρ)
noncomputable def Hl(sc:Scope)(o:PySem.Expr)(ρ:R):Option (Str×Int×List AV×List AV):=do
 let x <-Eg o
 let v <-Ca sc x ρ
 let(l,q,s) <-v.lex?
 some (x,l,q,s)
noncomputable def Rj(sc:Scope)(e:PySem.Expr)(ρ:R):Option (Bool×R):=match e with
 |.BoolOp op vs _=>VS r sc op vs ρ
 |.Compare a EO cs _=>Qc r sc a EO cs ρ
 |.Attribute o f _=>do
  let(_,_,q,_) <-Hl sc o ρ
  AG (decide (f="pushback"/\q.length<=Bg))
  some (!q.isEmpty,ρ)
 |.Name x _=>do
  let v <-Ca sc x ρ
  let xs <-v.ol?
  AG (decide (xs.length<=Bg))
  some (!xs.isEmpty,ρ)
 |.Call f args AT p=>do
  let(v,ρ) <-r.e sc (.Call f args AT p) ρ
  let b <-v.bool?
  some (b,ρ)
 |_=>none
noncomputable def Ga(sc:Scope):List PySem.Expr->R->Option (Bool×R)
 |[],ρ=>some (true,ρ)
 |e::es,ρ=>do
  let(b,ρ) <-r.t sc e ρ
  if b=true then Ga sc es ρ else some (false,ρ)
noncomputable def B6(body:AV->List AV->R->Option (List AV×R)):List AV->List AV->R->Option (List AV×R)
 |[],acc,ρ=>some (acc,ρ)
 |v::vs,acc,ρ=>do
  let(acc,ρ) <-body v acc ρ
  B6 body vs acc ρ
noncomputable def compTurn(sc:Scope)(t:PySem.Expr)(ifs:List PySem.Expr)(go:List AV->R->Option (List AV×R))(v:AV)(acc:List AV)(ρ:R):Option (List AV×R):=do
 let ρ <-BS sc t v ρ
 let(b,ρ) <-Ga r sc ifs ρ
 if b=true then go acc ρ else some (acc,ρ)
noncomputable def VQ(sc:Scope)(elt:PySem.Expr)(acc:List AV)(ρ:R):Option (List AV×R):=do
 let(v,ρ) <-r.e sc elt ρ
 AG (decide (acc.length<Bg))
 some (acc++[v],ρ)
noncomputable def BF(sc:Scope)(elt:PySem.Expr):List Comprehension->List AV->R->Option (List AV×R)
 |[],acc,ρ=>VQ r sc elt acc ρ
 |g::gs,acc,ρ=>do
  let(its,ρ) <-Gq r sc g.iter ρ
  B6 (compTurn r sc g.target g.ifs (BF sc elt gs)) its acc ρ
noncomputable def A5(sc scope:Scope):Scope:=
 {scope with names:=scope.names.map λ(n,k)=>if k==.free&&sc.kind==.function&&sc.names.lookup n==some .cell then(n,.cell) else(n,k)}
noncomputable def IP(C3:R):List (Str×AV)->R->Option R
 |[],ρ=>some ρ
 |p::r,ρ=>match p.2.ol? with
  |some _=>do
   let w <-C3.get p.1
   let xs <-w.ol?
   IP C3 r (ρ.set p.1 (.ol xs))
  |none=>do
   AG (p.2.free||p.2.clo?.isSome)
   IP C3 r ρ
noncomputable def LN(sc:Scope)(elt:PySem.Expr)(gs:List Comprehension)(scope:Scope)(ρ:R):Option (List AV×R):=match gs with
 |[]=>none
 |g::gs=>do
  AG ((DF (A5 sc scope)).isNone&&seen sc scope ρ&&scope.kind==.function&&(g::gs).all (λg=>g.is_async==0&&BI g.iter)&&scope.names.all (λp=>scope.names.lookup p.1==some p.2))
  let(its,ρ) <-Gq r sc g.iter ρ
  let(acc,ρ') <-B6 (compTurn r (A5 sc scope) g.target g.ifs (BF r (A5 sc scope) elt gs)) its [] ⟨CT scope ρ,Ay scope⟩
  let ρ <-IP ρ' (CT scope ρ) ρ
  some (acc,ρ)
noncomputable def GL(sc:Scope)(e:PySem.Expr)(ρ:R):Option (List AV×R):=match e with
 |.List es _=>do
  let(vs,ρ) <-BY r sc es ρ
  AG (decide (vs.length<=Bg))
  some (vs,ρ)
 |.ListComp elt gs scope _=>LN r sc elt gs scope ρ
 |_=>none
noncomputable def IX(x:Str):Bool:=(["result","words","hours","lone","opened","queue","turned","one","two","shares","gone"]:List Str).contains x
noncomputable def IZ(sc:Scope):Option PySem.Expr->R->Option (Option Int×R)
 |none,ρ=>some (none,ρ)
 |some e,ρ=>do
  let(v,ρ) <-r.e sc e ρ
  let k <-v.int?
  some (some k,ρ)
noncomputable def Kj(sc:Scope)(lo hi CS:Option PySem.Expr)(ρ:R):Option ((Option Int×Option Int×Option Int)×R):=do
 let(l,ρ) <-IZ r sc lo ρ
 let(h,ρ) <-IZ r sc hi ρ
 let(k,ρ) <-IZ r sc CS ρ
 AG (decide (k≠some 0))
 some ((l,h,k),ρ)
noncomputable def Ri(sc:Scope)(v s:PySem.Expr)(ρ:R):Option (AV×R):=match Cs sc v ρ with
 |some (x,_)=>match Lk s with
  |some (lo,hi,CS)=>do
   let((l,h,k),ρ) <-Kj r sc lo hi CS ρ
   let o <-ρ.get x
   let xs <-o.ol?
   let u <-D5 (.list xs) l h k
   some (u,ρ)
  |none=>do
   AG (BI s)
   let(i,ρ) <-r.e sc s ρ
   let o <-ρ.get x
   let xs <-o.ol?
   let u <-El (.list xs) i
   some (u,ρ)
 |none=>match Lk s with
  |some (lo,hi,CS)=>do
   let(o,ρ) <-r.e sc v ρ
   let((l,h,k),ρ) <-Kj r sc lo hi CS ρ
   let x <-D5 o l h k
   some (x,ρ)
  |none=>do
   AG (BI s)
   let(o,ρ) <-r.e sc v ρ
   let(i,ρ) <-r.e sc s ρ
   let x <-El o i
   some (x,ρ)
noncomputable def oL(x:Str)(C3:R)(p:Str)(ρ:R):Option R:=do
 let u <-C3.get p
 let(l,q,s) <-u.lex?
 some (ρ.set x (.lex l q s))
noncomputable def mE(x:Str)(C3:R)(p:Str)(ρ:R):Option R:=do
 let u <-C3.get p
 let xs <-u.ol?
 some (ρ.set x (.ol xs))
noncomputable def Ho(d:BG)(x:Str)(vs:List AV)(ks:List (Str×AV))(ρ:R):Option (AV×R):=do
 let v <-ρ.get x
 let(l,q,s) <-v.lex?
 let p <-d.ps.args.head?
 let b <-D9 d.ps (.lex l q s::vs) ks
 let(u,C3) <-BZ r d b
 let ρ <-oL x C3 p.arg ρ
 some (u,ρ)
noncomputable def Oi(d:BG)(x:Str)(vs:List AV)(ks:List (Str×AV))(ρ:R):Option (AV×R):=do
 let v <-ρ.get x
 let xs <-v.ol?
 let p <-d.ps.args.head?
 let b <-D9 d.ps (.ol xs::vs) ks
 let(u,C3) <-BZ r d b
 let ρ <-mE x C3 p.arg ρ
 some (u,ρ)
noncomputable def Ps(sc:Scope)(f:Str)(args:List PySem.Expr)(AT:List Keyword)(ρ:R):Option (AV×R):=match args with
 |[]=>none
 |a::es=>do
  let d <-B4 top f
  match Cs sc a ρ with
  |some (x,_)=>do
   let(vs,ρ) <-BY r sc es ρ
   let(ks,ρ) <-GU r sc AT ρ
   Oi r d x vs ks ρ
  |none=>do
   let(x,_) <-Hl sc a ρ
   let(vs,ρ) <-BY r sc es ρ
   let(ks,ρ) <-GU r sc AT ρ
   Ho r d x vs ks ρ
noncomputable def L1(f:Str):Bool:=f=="insort_left"||f=="insort_right"||f=="_law_words"
noncomputable def Jn(f:Str):Bool:=f=="len"||f=="sum"||f=="min"
noncomputable def Jc(sc:Scope)(f:Str)(a:PySem.Expr)(ρ:R):Option (AV×R):=match Cs sc a ρ with
 |some (_,xs)=>do
  AG (decide (f="len"/\xs.length<=Bg))
  some (.int xs.length,ρ)
 |none=>do
  AG (BI a)
  let(v,ρ) <-r.e sc a ρ
  if f="len" then do
   let n <-Re v
   AG (decide (n<=Bg))
   some (.int n,ρ)
  else do
   let xs <-v.list?
   let ns <-Hw xs
   if f="sum" then some (.int ns.sum,ρ) else match ns with
    |[]=>none
    |n::ns=>some (.int (ns.foldl min n),ρ)
noncomputable def V5(sc:Scope)(f x:Str)(es:List PySem.Expr)(AT:List Keyword)(ρ:R):Option (AV×R):=do
 let(vs,ρ) <-BY r sc es ρ
 let(ks,ρ) <-GU r sc AT ρ
 let v <-ρ.get x
 let xs <-v.ol?
 let(u,_) <-BL r top f (.list xs::vs) ks
 AG u.flat
 some (u,ρ)
noncomputable def Wl(sc:Scope)(f:Str)(args:List PySem.Expr)(AT:List Keyword)(ρ:R):Option (AV×R):=do
 AG !args.isEmpty
 let(vs,ρ) <-BY r sc args ρ
 let(ks,ρ) <-GU r sc AT ρ
 let(u,_) <-BL r top f vs ks
 some (u,ρ)
noncomputable def GD(sc:Scope)(f:Str)(args:List PySem.Expr)(AT:List Keyword)(ρ:R):Option (AV×R):=
 if Jn f then do
  AG AT.isEmpty
  let a <-EF args
  Jc r sc f a ρ
 else if L1 f then Ps r top sc f args AT ρ
 else match args.head?.bind λa=>Cs sc a ρ with
  |some (x,_)=>V5 r top sc f x args.tail AT ρ
  |none=>Wl r top sc f args AT ρ
noncomputable def TZ(sc:Scope)(f:Str)(args:List PySem.Expr)(ρ:R):Option (AV×R):=do
 let g <-Ca sc f ρ
 AG !args.isEmpty
 let(vs,ρ) <-BY r sc args ρ
 let v <-Fn r g vs
 some (v,ρ)
noncomputable def iI(m:Str)(o:AV)(vs:List AV):Option AV:=match o with
 |.str s=>do
  AG (decide (m="join"/\s.length=0))
  let a <-EF vs
  let xs <-a.list?
  let ss <-HM xs
  AG (decide ((ss.map Str.length).sum<=Bg))
  some (.str (Txt.join s ss))
 |.list xs=>do
  AG (decide (m="count"))
  let a <-EF vs
  let k <-a.int?
  let ns <-Hw xs
  some (.int (ns.count k))
 |_=>none
noncomputable def HL(e:PySem.Expr):Option Str:=(JU e).bind AV.str?
noncomputable def valMeth(sc:Scope)(m:Str)(o:AV)(args:List PySem.Expr)(ρ:R):Option (AV×R):=
 if m="replace" then do
  let s <-o.str?
  let(a,b) <-JR args
  let y <-HL a
  let z <-HL b
  AG (decide (s.length<=1000/\z.length<=10/\(y==z)=false))
  some (.str (Txt.replace s y z),ρ)
 else do
  let(vs,ρ) <-BY r sc args ρ
  let u <-iI m o vs
  some (u,ρ)
noncomputable def Gd(m:Str)(xs:List AV)(vs:List AV):Option (AV×List AV):=do
 AG (decide (xs.length<Bg))
 if m="append" then do
  let v <-EF vs
  some (.none,xs++[v])
 else if m="pop" then match vs with
  |[]=>do
   let v <-xs[xs.length - 1]?
   some (v,xs.eraseIdx (xs.length - 1))
  |a::r=>do
   AG r.isEmpty
   let k <-a.int?
   AG (decide (0<=k))
   let v <-xs[k.toNat]?
   some (v,xs.eraseIdx k.toNat)
 else do
  AG (decide (m="insert"))
  let(a,v) <-JR vs
  let k <-a.int?
  AG (decide (0<=k/\k<=xs.length))
  some (.none,xs.take k.toNat++v::xs.drop k.toNat)
noncomputable def I3(sc:Scope)(x m:Str)(args:List PySem.Expr)(ρ:R):Option (AV×R):=do
 let o <-Ca sc x ρ
 match o.ol? with
 |some _=>do
  let(vs,ρ) <-BY r sc args ρ
  let o' <-ρ.get x
  let xs <-o'.ol?
  let(u,xs) <-Gd m xs vs
  some (u,ρ.set x (.ol xs))
 |none=>match o.lex? with
  |some _=>do
   let(vs,ρ) <-BY r sc args ρ
   let d <-B4 (CW top) m
   Ho r d x vs [] ρ
  |none=>do
   AG o.free
   valMeth r sc m o args ρ
noncomputable def L9(sc:Scope)(o:PySem.Expr)(f m:Str)(args:List PySem.Expr)(ρ:R):Option (AV×R):=do
 let(x,_) <-Hl sc o ρ
 let(vs,ρ) <-BY r sc args ρ
 let v <-ρ.get x
 let(l,q,s) <-v.lex?
 if f="pushback" then do
  let(u,q) <-Gd m q vs
  some (u,ρ.set x (.lex l q s))
 else do
  AG (decide (f="instream"/\m="read"))
  let d <-B4 top "_law_lexer"
  let(ps,body,scope) <-JY d.body
  let y <-Na ps
  let a <-EF vs
  AG ((DF scope).isNone&&Im scope y&&Ay scope "signs"&&scope.kind==.function&& !scope.isGenerator&& !scope.isCoroutine&&scope.names.all (λp=>p.2 != .cell))
  let(u,C3) <-r.e scope body ⟨[(y,a),(("signs":Str),AV.ol s)],λ_=>true⟩
  let w <-C3.get "signs"
  let s <-w.ol?
  some (u,ρ.set x (.lex l q s))
noncomputable def nY(sc:Scope)(o:PySem.Expr)(m:Str)(args:List PySem.Expr)(ρ:R):Option (AV×R):=match o with
 |.Attribute b f _=>L9 r top sc b f m args ρ
 |.Name x _=>I3 r top sc x m args ρ
 |.Constant k _ _=>do
  let v <-Ge k
  valMeth r sc m v args ρ
 |.Call f a k p=>do
  AG (IW f).isSome
  let(v,ρ) <-r.e sc (.Call f a k p) ρ
  valMeth r sc m v args ρ
 |_=>none
noncomputable def Dd(sc:Scope)(f:PySem.Expr)(args:List PySem.Expr)(AT:List Keyword)(p:Pos)(ρ:R):Option (AV×R):=match Eg f with
 |some x=>do
  AG (!DI x&&decide (args.length+2*AT.length<=20))
  if BV sc x then GD r top sc x args AT ρ else do
   AG AT.isEmpty
   TZ r sc x args ρ
 |none=>do
  let(o,m,ap) <-IW f
  AG (AT.isEmpty&&ap.endLine==p.line&&decide (args.length<=5))
  nY r top sc o m args ρ
noncomputable def IJ(sc:Scope)(e:PySem.Expr)(ρ:R):Option (AV×R):=match e with
 |.Constant k _ _=>(Ge k).map λv=>(v,ρ)
 |.Name x _=>UU sc x ρ
 |.BinOp a op b _=>do
  let(x,ρ) <-r.e sc a ρ
  let(y,ρ) <-r.e sc b ρ
  let v <-CG op x y
  some (v,ρ)
 |.UnaryOp op a _=>do
  let k <-PJ a
  let v <-Ge k
  let i <-v.int?
  match op with
  |.USub=>some (.int (-i),ρ)
  |_=>none
 |.Compare a EO cs _=>do
  let(b,ρ) <-Qc r sc a EO cs ρ
  some (.bool b,ρ)
 |.IfExp t a b _=>do
  let(x,ρ) <-r.t sc t ρ
  if x=true then r.e sc a ρ else r.e sc b ρ
 |.Call f args AT p=>Dd r top sc f args AT p ρ
 |.Subscript v s _=>Ri r sc v s ρ
 |.Tuple es _ _=>do
  let(vs,ρ) <-BY r sc es ρ
  AG (decide (vs.length<=Bg))
  some (.tup vs,ρ)
 |.List es p=>do
  let(vs,ρ) <-GL r sc (.List es p) ρ
  some (.list vs,ρ)
 |.ListComp elt gs scope p=>do
  let(vs,ρ) <-GL r sc (.ListComp elt gs scope p) ρ
  some (.list vs,ρ)
 |.Attribute o f _=>do
  let(_,l,_,_) <-Hl sc o ρ
  if f="lineno" then some (.int l,ρ) else do
   AG (decide (f="whitespace"))
   some (.str "\n\t\r ",ρ)
 |_=>none
noncomputable def BP(body:AV->R->Option (Fl×R)):List AV->R->Option (Fl×R)
 |[],ρ=>some (.next,ρ)
 |v::vs,ρ=>do
  let(f,ρ) <-body v ρ
  match f with
  |.ret x=>some (.ret x,ρ)
  |_=>BP body vs ρ
noncomputable def GQ(test:R->Option (Bool×R))(body:R->Option (Fl×R)):Nat->R->Option (Fl×R)
 |0,_=>none
 |n+1,ρ=>do
  let(b,ρ) <-test ρ
  if b=true then do
   let(f,ρ) <-body ρ
   match f with
   |.ret x=>some (.ret x,ρ)
   |_=>GQ test body n ρ
  else some (.next,ρ)
noncomputable def Ix(sc:Scope)(ρ:R):Option (AV×R):=do
 let _ <-Ca sc "self" ρ
 let d <-B4 (CW top) "_read_char"
 Ho r d "self" [] [] ρ
noncomputable def DA(f:Str)(rd:R->Option (AV×R))(body:AV->R->Option (Fl×R)):Nat->R->Option (Fl×R)
 |0,_=>none
 |n+1,ρ=>do
  let c <-ρ.get f
  let live <-c.cit?
  if live=true then do
   let(v,ρ) <-rd ρ
   let s <-v.str?
   if s=⟨#[]⟩ then some (.next,ρ.set f (.cit false)) else do
    let(fl,ρ) <-body (.str s) ρ
    match fl with
    |.ret x=>some (.ret x,ρ)
    |_=>DA f rd body n ρ
  else some (.next,ρ)
noncomputable def Ih:PySem.Expr->Bool
 |.List .. =>true
 |.ListComp .. =>true
 |_=>false
noncomputable def Ox:PySem.Expr->Bool
 |.ListComp .. =>false
 |.SetComp .. =>false
 |.DictComp .. =>false
 |_=>true
noncomputable def Ou(sc:Scope)(e:PySem.Expr):Option (Str×List PySem.Expr):=do
 let(f,args,AT,_) <-G3 e
 let x <-Eg f
 AG (BV sc x&&AT.isEmpty)
 some (x,args)
noncomputable def Vq(sc:Scope)(args:List PySem.Expr)(ρ:R):Option Unit:=do
 let(a,b) <-JR args
 let(o,m,_) <-IW a
 let(x,_) <-Hl sc o ρ
 let v <-JU b
 let s <-v.str?
 AG (decide (x="self"/\m="_read_char"/\s.length=0))
noncomputable def GA(sc:Scope)(x:Str)(v:PySem.Expr)(ρ:R):Option R:=
 if Ih v then do
  let(xs,ρ) <-GL r sc v ρ
  if IX x=true then do
   AG (ρ.get x).isNone
   Cy sc x (.ol xs) ρ
  else Cy sc x (.list xs) ρ
 else match Ou sc v with
  |some (f,args)=>if f="_law_lexer" then do
   let a <-EF args
   AG (BI a)
   let(u,ρ) <-r.e sc a ρ
   let t <-u.str?
   AG (decide ((ρ.get x).isNone=true/\t.length<=Bg))
   Cy sc x (.lex 1 [] (signsOf t)) ρ
   else if f="iter" then do
    Vq sc args ρ
    AG (ρ.get x).isNone
    Cy sc x (.cit true) ρ
   else do
    AG (Ox v)
    let(u,ρ) <-r.e sc v ρ
    Cy sc x u ρ
  |none=>do
   AG (Ox v)
   let(u,ρ) <-r.e sc v ρ
   Cy sc x u ρ
noncomputable def forTurn(sc:Scope)(t:PySem.Expr)(b:List Stmt)(v:AV)(ρ:R):Option (Fl×R):=do
 let ρ <-BS sc t v ρ
 r.ss sc b ρ
noncomputable def TH(sc:Scope)(t i:PySem.Expr)(b:List Stmt)(ρ:R):Option (Fl×R):=do
 match JQ sc i with
 |some (x,a)=>do
  AG (ME t).isSome
  let(its,ρ) <-JZ r sc x a ρ
  BP (forTurn r sc t b) its ρ
 |none=>do
  let(its,ρ) <-Gq r sc i ρ
  BP (forTurn r sc t b) its ρ
noncomputable def Kp(sc:Scope)(x:Str)(b:List Stmt)(v:AV)(ρ:R):Option (Fl×R):=do
 let ρ <-Cy sc x v ρ
 r.ss sc b ρ
noncomputable def Ik(sc:Scope)(t i:PySem.Expr)(ρ:R):Option (Str×Str):=do
 let f <-Eg i
 let v <-Ca sc f ρ
 let _ <-v.cit?
 let x <-Eg t
 some (f,x)
noncomputable def QY(sc:Scope)(t i:PySem.Expr)(b:List Stmt)(ρ:R):Option (Fl×R):=match Ik sc t i ρ with
 |some (f,x)=>DA f (Ix r top sc) (Kp r sc x b) W ρ
 |none=>TH r sc t i b ρ
noncomputable def Q7(sc:Scope)(ts:List PySem.Expr)(v:PySem.Expr)(ρ:R):Option R:=do
 let t <-EF ts
 match Eg t with
 |some x=>GA r sc x v ρ
 |none=>do
  AG (G3 v).isSome
  let(w,ρ) <-r.e sc v ρ
  BS sc t w ρ
noncomputable def Qx(sc:Scope)(t:PySem.Expr)(op:Operator)(v:PySem.Expr)(ρ:R):Option R:=match Eg t with
 |some x=>do
  let old <-Ca sc x ρ
  let(w,ρ) <-r.e sc v ρ
  let u <-Gy op old w
  Cy sc x u ρ
 |none=>do
  let(o,f,_) <-IW t
  let(x,l,q,s) <-Hl sc o ρ
  AG (decide (f="lineno"))
  let w <-JU v
  let k <-w.int?
  let u <-Gy op (.int l) (.int k)
  let l <-u.int?
  some (ρ.set x (.lex l q s))
noncomputable def AQ(sc:Scope)(s:Stmt)(ρ:R):Option (Fl×R):=match s with
 |.Expr v _=>do
  AG (G3 v).isSome
  let(_,ρ) <-r.e sc v ρ
  some (.next,ρ)
 |.Continue _=>some (.cont,ρ)
 |.Return e _=>do
  let e <-e
  let(v,ρ) <-r.e sc e ρ
  some (.ret v,ρ)
 |.Assign ts v _=>do
  let ρ <-Q7 r sc ts v ρ
  some (.next,ρ)
 |.AugAssign t op v _=>do
  let ρ <-Qx r sc t op v ρ
  some (.next,ρ)
 |.If t b o _=>do
  let(x,ρ) <-r.t sc t ρ
  if x=true then r.ss sc b ρ else r.ss sc o ρ
 |.While t b o _=>do
  AG o.isEmpty
  GQ (r.t sc t) (r.ss sc b) W ρ
 |.For t i b o _=>do
  AG o.isEmpty
  QY r top W sc t i b ρ
 |_=>none
noncomputable def Hh(sc:Scope):List Stmt->R->Option (Fl×R)
 |[],ρ=>some (.next,ρ)
 |s::ss,ρ=>do
  let(f,ρ) <-AQ r top W sc s ρ
  match f with
  |.next=>Hh sc ss ρ
  |f=>some (f,ρ)
end
noncomputable def Ev.step(top:List Stmt)(W:Nat)(r:Ev):Ev:=⟨IJ r top,Rj r,Hh r top W⟩
noncomputable def A1(top:List Stmt)(W:Nat):Nat->Ev
 |0=>Ev.nil
 |n+1=>(A1 top W n).step top W
set_option backward.match.sparseCases true
section
variable {G G' CD AC Gb Go:Gh} {a sl cc I it C me:Addr} {r:Ev} {v u Co:AV} {v' a' b' i' o' fv KO:Value} {P:Str->AV->Value->Prop} {xs ys O3 its acc:List AV} {vs ws Ba:List Value} {i line:Int} {x qual:Str} {l ks kw caught:List (Str×AV)} {t e value slice body elt target:PySem.Expr} {pos ap tp pf cp p1 p2 p5:Pos} {c:Cx} {ρ ρ' I5 AH Cj Aw:R} {s s' s'' Ao so:Shared} {h h':Heap} {KN cvs:Array Value} {k n j tk:Nat} {L:JT} {env AN Dj:Env} {W:Addr->Prop} {o:Obj} {M:Model} {A:Around} {E Q:Value->Shared->Prop} {sc scope:Scope} {prog:Program} {w:World} {α β OY:Type} {b top:List Stmt} {op:Operator} {ds:List PyData} {EO:List CmpOp} {cs es args ts:List PySem.Expr} {m:Str->Option Value} {T:Addr->Option AP} {l' m' Ci:List (Str×Value)} {func:Option Addr} {d:BG} {fd:FuncData} {ps:Arguments} {AT:List Keyword} {an:Option PySem.Expr} {ns:List Int} {fp:List Addr} {R':Result->Shared->Prop} {gens gs:List Comprehension} {g:Comprehension} {go:List AV->R->Option (List AV×R)} {cl:List (Str×Addr)} {use:Option (Value->Sem Unit)} {ex:Bool} {tt:Tok} {Pt:Nat->Array Value->Prop} {J8:Nat->Addr->Heap->Prop} {Y:Protocol} {fs:List Frame} {H:Value->Sem PySem.Fin} {gd:Bool->Bool}
set_option genInjectivity true in
inductive AP where
 |fro (o:Obj)
 |frame
 |cell
 |own (x:Str) (k:Nat)
noncomputable abbrev Gh:=Addr->Option AP
noncomputable def Gh.put(G:Gh)(a:Addr)(r:AP):Gh:= λb=>if b=a then some r else G b
theorem Gh.put_self(G:Gh)(a:Addr)(r:AP):G.put a r a=some r:=if_pos rfl
theorem Gh.put_ne{b:Addr}{r:AP}(h:b≠a):G.put a r b=G b:=if_neg h
mutual
inductive VR (G:Gh):AV->Value->Prop
 |none:VR G .none .none
 |bool {b:_}:VR G (.bool b) (.bool b)
 |int {i t:_}:VR G (.int i) (.int i t)
 |str {s t:_}:VR G (.str s) (.str s t)
 |tup {xs a vs n:_}:G a=some (.fro {cls:=.type "tuple",data:=.seq vs n})->VRs G xs vs.toList->VR G (.tup xs) (.ref a)
 |list {xs a vs n:_}:G a=some (.fro {cls:=.type "list",data:=.seq vs n})->VRs G xs vs.toList->VR G (.list xs) (.ref a)
 |raw {a:_}:VR G (.raw a) (.ref a)
inductive VRs (G:Gh):List AV->List Value->Prop
 |nil:VRs G [] []
 |cons {x xs v vs:_}:VR G x v->VRs G xs vs->VRs G (x::xs) (v::vs)
end
noncomputable def Gh.Le(G G':Gh):Prop:=∀a o,G a=some (.fro o)->G' a=some (.fro o)
theorem Gh.Le.refl(G:Gh):G.Le G:= λ_ _ h=>h
theorem Gh.Le.trans(h:G.Le G')(h':G'.Le CD):G.Le CD:= λa o e=>h' a o (h a o e)
noncomputable def Gh.Seq(G G':Gh):Prop:=∀a C vs n,G a=some (.fro {cls:=.type C,data:=.seq vs n})->G' a=some (.fro {cls:=.type C,data:=.seq vs n})
theorem Gh.Le.seq(h:G.Le G'):G.Seq G':= λ_ _ _ _ e=>h _ _ e
theorem VR.seq(h:G.Seq G')(x:VR G v v'):VR G' v v':=
 VR.rec (motive_1:= λv v' _=>VR G' v v') (motive_2:= λv v' _=>VRs G' v v')
  .none .bool .int .str (λg _ i=>.tup (h _ _ _ _ g) i) (λg _ i=>.list (h _ _ _ _ g) i) .raw .nil (λ_ _ i j=>.cons i j) x
theorem VRs.ind{P:List AV->List Value->Prop}(h0:P [] [])(h1:∀x v xs vs,VR G x v->VRs G xs vs->P xs vs->P (x::xs) (v::vs))(q:VRs G xs vs):P xs vs:=
 VRs.rec (motive_1:= λ_ _ _=>True) (motive_2:= λxs vs _=>P xs vs) trivial trivial trivial trivial (λ_ _ _=>trivial) (λ_ _ _=>trivial) trivial h0 (λa b _ i=>h1 _ _ _ _ a b i) q
theorem VRs.seq(h:G.Seq G'){v:List AV}{v':List Value}(x:VRs G v v'):VRs G' v v':=
 VRs.rec (motive_1:= λv v' _=>VR G' v v') (motive_2:= λv v' _=>VRs G' v v')
  .none .bool .int .str (λg _ i=>.tup (h _ _ _ _ g) i) (λg _ i=>.list (h _ _ _ _ g) i) .raw .nil (λ_ _ i j=>.cons i j) x
theorem VR.mono(h:G.Le G')(x:VR G v v'):VR G' v v':=x.seq h.seq
theorem VRs.mono(h:G.Le G'){v:List AV}{v':List Value}(x:VRs G v v'):VRs G' v v':=x.seq h.seq
noncomputable def VRc(G:Gh)(caught:List (Str×AV))(cl:List (Str×Addr)):Prop:=
 ∀x v,caught.lookup x=some v->∃a o v',cl.lookup x=some a/\G a=some (.fro o)/\o.data=.cell (some v')/\VR G v v'
theorem VRc.mono(h:G.Le G'){v:List (Str×AV)}{v':List (Str×Addr)}(q:VRc G v v'):VRc G' v v':= λx u e=>
 (q x u e).imp λa q=>q.imp λo q=>q.imp λv' q=>⟨q.1,h _ _ q.2.1,q.2.2.1,q.2.2.2.mono h⟩
structure CLs (G:Gh) (sc:Scope) (ps:Arguments) (body:PySem.Expr) (caught:List (Str×AV)) (f:Addr) (o:Obj) (fd:FuncData) (c:Addr) (oc:Obj) (cvs:Array Value) (t:Tok):Prop where
 gf:G f=some (.fro o)
 data:o.data=.func fd
 params:fd.params=ps
 body:fd.body=.expr body
 scope:fd.scope=sc
 glob:fd.globals=mainGlobals
 blt:fd.builtins=builtinsNs
 code:fd.code=.ref c
 gc:G c=some (.fro oc)
 cdata:oc.data=.fields cvs
 cname:cvs[1]? =some (.str fd.qualname t)
 inj:∀x y a,fd.closure.lookup x=some a->fd.closure.lookup y=some a->x=y
 caught:VRc G caught fd.closure
 dflt:fd.defaults=.none
 held:∀x a,fd.closure.lookup x=some a->∃o,G a=some (.fro o)
noncomputable def CL(G:Gh)(sc:Scope)(ps:Arguments)(body:PySem.Expr)(caught:List (Str×AV))(v:Value):Prop:=∃f o fd c oc cvs t,v=.ref f/\CLs G sc ps body caught f o fd c oc cvs t
theorem CLs.mono(h:G.Le G'){sc ps body caught f o fd c oc cvs t:_}(q:CLs G sc ps body caught f o fd c oc cvs t):CLs G' sc ps body caught f o fd c oc cvs t:=
 ⟨h _ _ q.gf,q.data,q.params,q.body,q.scope,q.glob,q.blt,q.code,h _ _ q.gc,q.cdata,q.cname,q.inj,q.caught.mono h,q.dflt,λx a e=>(q.held x a e).imp λ_ e=>h _ _ e⟩
theorem CL.mono(h:G.Le G'){sc ps body caught v:_}(q:CL G sc ps body caught v):CL G' sc ps body caught v:=
 q.imp λ_ q=>q.imp λ_ q=>q.imp λ_ q=>q.imp λ_ q=>q.imp λ_ q=>q.imp λ_ q=>q.imp λ_ q=>⟨q.1,q.2.mono h⟩
theorem VRs.length{v:List AV}{v':List Value}(q:VRs G v v'):v.length=v'.length:=
 q.ind (P:= λv v'=>v.length=v'.length) rfl λ_ _ _ _ _ _ i=>congrArg (· +1) i
theorem VRs.get{i:Nat}{x:AV}(q:VRs G xs vs):xs[i]? =some x->∃v,vs[i]? =some v/\VR G x v:=
 q.ind (P:= λxs vs=>∀i:Nat,xs[i]? =some x->∃v,vs[i]? =some v/\VR G x v) (λ_ h=>Az h) (λ_ v _ _ a _ ih i h=>Nat.casesOn (motive:= λi=>(_::_)[i]? =some x->∃v',(v::_)[i]? =some v'/\VR G x v') i (λh=>⟨_,rfl,Option.some.inj h▸a⟩) (λi h=>ih i h) h) i
theorem VRs.none{i:Nat}(h:VRs G xs vs)(e:xs[i]? =Option.none):vs[i]? =Option.none:=by
 rw[List.getElem?_eq_none_iff] at e ⊢;rw[<-h.length];exact e
theorem VRs.append(q:VRs G xs vs)(h:VRs G ys ws):VRs G (xs++ys) (vs++ws):=
 q.ind (P:= λxs vs=>VRs G (xs++ys) (vs++ws)) h λ_ _ _ _ a _ ih=>.cons a ih
theorem VRs.pikk(h:VRs G xs vs):∀is:List Nat,VRs G (is.filterMap (xs[·]?)) (is.filterMap (vs[·]?))
 |[]=>.nil
 |i::is=>by
  cases e:xs[i]? with
  |none=>rw[List.filterMap_cons_none e,List.filterMap_cons_none (h.none e)];exact h.pikk is
  |some x=>
   refine Ak (h.get e) λv e' y=>?_
   rw[List.filterMap_cons_some e,List.filterMap_cons_some e'];exact .cons y (h.pikk is)
structure Cx where
 base:Heap
 mg:Str->Option Value
 mb:Str->Option Value
 P:Params
 C:Addr
 rd:Option Value
 tabs:List (Addr×Addr×Str)
 hc:Str->Addr
 hq:Str->Str
noncomputable def Cu(c:Cx)(sc:Scope)(env:Env):Prop:=env.scope=sc/\∀f,DF sc=some f->env.code=.ref (c.hc f)/\env.qual=c.hq f
noncomputable def Cx.isTab(c:Cx)(a:Addr):Prop:=∃t∈c.tabs,t.2.1=a
noncomputable def PL(h:Heap)(a:Addr)(vs:Array Value):Prop:=∃n,h.get? a=some {cls:=.type "list",data:=.seq vs n}
noncomputable def OL(G:Gh)(h:Heap)(x:Str)(k:Nat)(xs:List AV)(v:Value):Prop:=∃a vs,v=.ref a/\G a=some (.own x k)/\PL h a vs/\VRs G xs vs.toList
noncomputable def Gf(P:Params)(ts:Fin 4->Tok)(line qZ ws push:Value):List DictEntry:=
 [⟨PyData.keyHash P "lineno",.str "lineno" (ts 0),line⟩,⟨PyData.keyHash P "instream",.str "instream" (ts 1),qZ⟩,⟨PyData.keyHash P "whitespace",.str "whitespace" (ts 2),ws⟩,⟨PyData.keyHash P "pushback",.str "pushback" (ts 3),push⟩]
structure JT where
 (a d p g st d2 f c' cc:Addr)
 (ts:Fin 4->Tok)
 (t tw tr tc:Tok)
 (n n2:Nat)
 es:List DictEntry
 (o oc oc':Obj)
 fd:FuncData
 cvs:Array Value
 b:PySem.Expr
structure LXs (c:Cx) (G:Gh) (h:Heap) (x:Str) (line:Int) (push signs:List AV) (L:JT):Prop where
 ga:G L.a=some (.own x 3)
 ha:h.get? L.a=some (instObj c.C L.d)
 gd:G L.d=some (.own x 0)
 hd:h.get? L.d=some {cls:=.type "dict",data:=.dict (Gf c.P L.ts (.int line L.t) (.ref L.st) (.str "\n\t\r " L.tw) (.ref L.p)).toArray L.n}
 push:OL G h x 1 push (.ref L.p)
 signs:OL G h x 2 signs (.ref L.g)
 gst:G L.st=some (.fro (instObj c.C L.d2))
 gd2:G L.d2=some (.fro {cls:=.type "dict",data:=.dict L.es.toArray L.n2})
 read:(L.es.find? λe:DictEntry=>e.key.isStr "read")=some ⟨PyData.keyHash c.P "read",.str "read" L.tr,.ref L.f⟩
 gf:G L.f=some (.fro L.o)
 cls:L.o.cls=.type "function"
 data:L.o.data=.func L.fd
 glob:L.fd.globals=mainGlobals
 blt:L.fd.builtins=builtinsNs
 code:L.fd.code=.ref L.c'
 gc:G L.c'=some (.fro L.oc')
 cdata:L.oc'.data=.fields L.cvs
 cname:L.cvs[1]? =some (.str L.fd.qualname L.tc)
 body:L.fd.body=.expr L.b
 text:(B4 PySem.Challenge.pw_sc0059_01.main.body "_law_lexer").bind (λd=>JY d.body)=some (L.fd.params,L.b,L.fd.scope)
 clos:L.fd.closure=[(("signs":Str),L.cc)]
 gcc:G L.cc=some (.fro L.oc)
 cell:L.oc.data=.cell (some (.ref L.g))
 dflt:L.fd.defaults=.none
noncomputable def LX(c:Cx)(G:Gh)(h:Heap)(x:Str)(line:Int)(push signs:List AV)(v:Value):Prop:=∃L:JT,v=.ref L.a/\LXs c G h x line push signs L
structure Z7 (G:Gh) (h:Heap) (a me f b:Addr) (t:Tok):Prop where
 it:h.get? a=some {cls:=.type "callable_iterator",data:=.fields #[.ref me,.str "" t,.bool false]}
 gm:G me=some (.fro {cls:=.type "method",data:=.fields #[.ref f,.ref b]})
 gb:G b=some (.own "self" 3)
noncomputable def CX(c:Cx)(G:Gh)(h:Heap)(x:Str)(live:Bool)(v:Value):Prop:=
 ∃a,v=.ref a/\G a=some (.own x 0)/\(live=true->∃me f b t,c.rd=some (.ref f)/\Z7 G h a me f b t)/\(live=false->h.get? a=some {cls:=.type "callable_iterator",data:=.fields #[.none,.none,.bool true]})
noncomputable def OR(c:Cx)(G:Gh)(h:Heap)(x:Str):AV->Value->Prop
 |.ol xs,v=>OL G h x 0 xs v
 |.lex l q s,v=>LX c G h x l q s v
 |.cit b,v=>CX c G h x b v
 |.clo sc ps b k,v=>CL G sc ps b k v
 |a,v=>VR G a v
inductive Trips (G:Gh) (q:Str):List Value->Prop
 |nil:Trips G q []
 |cons {l t k u c' oc cvs tk r:_}:G c'=some (.fro oc)->oc.data=.fields cvs->cvs[1]? =some (.str q tk)->Trips G q r->Trips G q (.int l t::.int k u::.ref c'::r)
theorem Trips.imp{q:Str}(h:∀c' oc cvs,G c'=some (.fro oc)->oc.data=.fields cvs->G' c'=some (.fro oc)){l:List Value}(r:Trips G q l):Trips G' q l:=by
 induction r with
 |nil=>exact .nil
 |cons a b d _ ih=>exact .cons (h _ _ _ a b) b d ih
theorem Trips.ok{q:Str}{l:List Value}(r:Trips G q l):TriplesOk l:=by
 induction r with
 |nil=>trivial
 |cons _ _ _ _ ih=>exact ih
theorem Trips.snoc{q:Str}{c' oc cvs tk:_}{j:Int}{t u:Tok}(a:G c'=some (.fro oc))(b:oc.data=.fields cvs)(d:cvs[1]? =some (.str q tk)){l:List Value}(r:Trips G q l):Trips G q (l++[.int i t,.int j u,.ref c']):=by
 induction r with
 |nil=>exact .cons a b d .nil
 |cons a' b' d' _ ih=>exact .cons a' b' d' ih
theorem Trips.among{q:Str}{cv:Value}{l:List Value}(r:Trips G q l):codeAmong pos l=some cv->∃c' oc cvs tk,cv=.ref c'/\G c'=some (.fro oc)/\oc.data=.fields cvs/\cvs[1]? =some (.str q tk):=by
 induction r with
 |nil=>exact λe=>Az e
 |cons a b d _ ih=>
  intro e
  unfold codeAmong at e
  split at e
  ·exact⟨_,_,_,_,(Option.some.inj e).symm,a,b,d⟩
  ·exact ih e
noncomputable def Qh(G:Gh)(h:Heap)(t:Addr×Addr×Str):Prop:=∃ps,h.get? t.2.1=some (tabObj ps)/\Trips G t.2.2 ps.toList
structure Qr (c:Cx) (G:Gh) (s:Shared):Prop where
 keep:∀a o,c.base.get? a=some o->¬c.isTab a->s.heap.get? a=some o
 old:∀a o,c.base.get? a=some o->G a=none∨(G a=some (.fro o)/\¬c.isTab a)
 tab:∀t∈c.tabs,Qh G s.heap t/\c.base.get? t.2.1=some (tabObj #[])
 bare:AllBare s.gens
 tok:0<s.toks
noncomputable def WS(c:Cx)(G:Gh)(h:Heap)(env:Env)(shut:Str->Bool)(x:Str)(v:AV):Prop:=
 (env.kindOf x=some .cell∨env.kindOf x=some .free)/\∃a o v',env.cells.lookup x=some a/\h.get? a=some o/\o.data=.cell (some v')/\OR c G h x v v'/\((G a=some .cell/\shut x=false)∨G a=some (.fro o))
structure Inv (c:Cx) (G:Gh) (s:Shared) (env:Env) (ρ:R):Prop where
 stat:Qr c G s
 fro:∀a o,G a=some (.fro o)->s.heap.get? a=some o
 low:∀a r,G a=some r->∃o,s.heap.get? a=some o
 uniq:∀a b x k,G a=some (.own x k)->G b=some (.own x k)->a=b
 res:∀a x k,G a=some (.own x k)->(ρ.get x).isSome=true
 kf:env.scope.kind=.function
 gl:env.globals=mainGlobals
 bi:env.builtins=builtinsNs
 frame:G env.locals=some .frame
 ns:∃m,s.heap.Ns env.locals m/\∀x v,ρ.get x=some v->env.kindOf x=some .local->∃v',m x=some v'/\OR c G s.heap x v v'
 cel:∀x v,ρ.get x=some v->env.kindOf x=some .local∨WS c G s.heap env ρ.shut x v
 room:∀x,ρ.shut x=false->env.kindOf x=some .cell->∃a o v,env.cells.lookup x=some a/\s.heap.get? a=some o/\o.data=.cell v/\G a=some .cell
 inj:∀x y a,env.cells.lookup x=some a->env.cells.lookup y=some a->x=y
structure Nx (c:Cx) (ρ:R) (G:Gh) (s:Shared) (ρ':R) (G':Gh) (s':Shared):Prop where
 le:G.Le G'
 new:∀a o,s.heap.get? a=some o->G a=none->G' a=none
 own:∀a x k,G' a=some (.own x k)->(ρ.get x).isSome=true->G a=some (.own x k)
 keep:∀a o,s.heap.get? a=some o->G a=none->¬c.isTab a->s'.heap.get? a=some o
 live:∀a o,s.heap.get? a=some o->∃o',s'.heap.get? a=some o'
 gens:∀(i:Nat) (x:GenState),s.gens[i]? =some x->s'.gens[i]? =some x
 os:s'.os=s.os
 dom:∀x,(ρ.get x).isSome=true->(ρ'.get x).isSome=true
theorem Nx.refl(c:Cx)(ρ:R)(G:Gh)(s:Shared):Nx c ρ G s ρ G s:=⟨.refl _,λ_ _ _ h=>h,λ_ _ _ h _=>h,λ_ _ h _ _=>h,λ_ o h=>⟨o,h⟩,λ_ _ h=>h,rfl,λ_ h=>h⟩
theorem Nx.trans(a:Nx c ρ G s ρ' G' s')(b:Nx c ρ' G' s' I5 CD s''):Nx c ρ G s I5 CD s'':=
 ⟨a.le.trans b.le,λx o e n=>(a.live x o e).elim λo' e'=>b.new x o' e' (a.new x o e n),λx y k e d=>a.own x y k (b.own x y k e (a.dom y d)) d,
  λx o e n t=>b.keep x o (a.keep x o e n t) (a.new x o e n) t,λx o e=>(a.live x o e).elim λo' e'=>b.live x o' e',λi x e=>b.gens i x (a.gens i x e),b.os.trans a.os,λx d=>b.dom x (a.dom x d)⟩
theorem Nx.dead(N:Nx c ρ G s ρ' G' s')(h:s'.heap.get? a=none):s.heap.get? a=none:=by
 cases e:s.heap.get? a with
 |none=>rfl
 |some o=>
  obtain⟨o',e'⟩:=N.live a o e
  rw[h] at e';exact Az e'
noncomputable def OkA(A:Around)(n:Nat):Prop:=A.handled=none/\A.depth+4*n<=900/\A.units+60*n<=9000
theorem PL.to{x':Addr}(a:PL h x' KN)(k:∀o,h.get? x'=some o->h'.get? x'=some o):PL h' x' KN:=let⟨n,e⟩:=a;⟨n,k _ e⟩
theorem OL.to(l:G.Le G')(g:∀a k,G a=some (.own x k)->G' a=some (.own x k))(hk:∀a k o,G a=some (.own x k)->h.get? a=some o->h'.get? a=some o)(y:OL G h x k xs v'):OL G' h' x k xs v':=by
 revert y;refine DO λa vs e r p z=>?_
 exact⟨a,vs,e,g _ _ r,p.to λ_=>hk _ _ _ r,z.mono l⟩
theorem LXs.to{push signs:List AV}(l:G.Le G')(g:∀a k,G a=some (.own x k)->G' a=some (.own x k))(hk:∀a k o,G a=some (.own x k)->h.get? a=some o->h'.get? a=some o)(y:LXs c G h x line push signs L):LXs c G' h' x line push signs L:=
 ⟨g _ _ y.ga,hk _ _ _ y.ga y.ha,g _ _ y.gd,hk _ _ _ y.gd y.hd,y.push.to l g hk,y.signs.to l g hk,l _ _ y.gst,l _ _ y.gd2,y.read,l _ _ y.gf,y.cls,y.data,y.glob,y.blt,y.code,l _ _ y.gc,y.cdata,y.cname,y.body,y.text,y.clos,l _ _ y.gcc,y.cell,y.dflt⟩
theorem CX.to{live:Bool}(l:G.Le G')(g:∀a k,G a=some (.own x k)->G' a=some (.own x k))(hk:∀a k o,G a=some (.own x k)->h.get? a=some o->h'.get? a=some o)
 (gs:∀a k,G a=some (.own "self" k)->G' a=some (.own "self" k)) (y:CX c G h x live v'):CX c G' h' x live v':=by
 revert y;refine WI λa e r z1 z2=>?_
 refine⟨a,e,g _ _ r,λq=>?_,λq=>?_⟩
 ·refine Jj (z1 q) λme f b t e z=>?_
  exact⟨me,f,b,t,e,hk _ _ _ r z.it,l _ _ z.gm,gs _ _ z.gb⟩
 ·exact hk _ _ _ r (z2 q)
theorem OR.to(l:G.Le G')(g:∀a k,G a=some (.own x k)->G' a=some (.own x k))(hk:∀a k o,G a=some (.own x k)->h.get? a=some o->h'.get? a=some o)
 (gs:∀a k,G a=some (.own "self" k)->G' a=some (.own "self" k)) (y:OR c G h x v v'):OR c G' h' x v v':=by
 cases v with
 |ol xs=>exact OL.to l g hk y
 |lex a b d=>refine Ak ((show LX c G h x a b d v' from y)) λL e z=>?_;exact(show LX c G' h' x a b d v' from⟨L,e,z.to l g hk⟩)
 |cit b=>exact CX.to l g hk gs y
 |clo=>exact CL.mono l y
 |_=>exact VR.mono l y
theorem Inv.noTab(I:Inv c G s env ρ){r:AP}(e:G a=some r):¬c.isTab a:= λ⟨t,m,q⟩=>by
 rcases I.stat.old a _ (q▸(I.stat.tab t m).2) with z|z
 ·rw[e] at z;exact Ef z
 ·exact z.2 ⟨t,m,q⟩
theorem Inv.more'(I:Inv c G s env ρ)(up:∀a r,G a=some r->G' a=some r)(dn:∀a r,G' a=some r->G a=some r∨∃o,r=.fro o/\s'.heap.get? a=some o/\c.base.get? a=none)
 (hk:∀a o,s.heap.get? a=some o->¬c.isTab a->(G a=none->c.base.get? a=none->False)->s'.heap.get? a=some o) (hb:AllBare s'.gens) (hp:0<s'.toks) (ht:∀t∈c.tabs,Qh G' s'.heap t):Inv c G' s' env ρ:=by
 have own:∀{a x k},G' a=some (.own x k)->G a=some (.own x k):= λe=>(dn _ _ e).resolve_right λ⟨_,q,_⟩=>AP.noConfusion q
 have rl:∀{a:Addr} {r:AP},G a=some r->G a=none->c.base.get? a=none->False:= λe n _=>by rw[e] at n;exact Ef n
 have to:∀{x v v'},OR c G s.heap x v v'->OR c G' s'.heap x v v':= λ{x v v'} z=>z.to (λ_ _ e=>up _ _ e) (λ_ _ e=>up _ _ e) (λ_ _ _ g e=>hk _ _ e (I.noTab g) (rl g)) (λ_ _ e=>up _ _ e)
 refine⟨⟨λa o e t=>hk _ _ (I.stat.keep a o e t) t (λ_ n=>by rw[e] at n;exact Ef n),λa o e=>?_,λt m=>⟨ht t m,(I.stat.tab t m).2⟩,hb,hp⟩,λa o e=>?_,λa r e=>?_,λa b x k e e'=>I.uniq _ _ _ _ (own e) (own e'),λa x k e=>I.res _ _ _ (own e),I.kf,I.gl,I.bi,up _ _ I.frame,
  I.ns.imp λm q=>⟨q.1.at' λo e=>hk _ _ e (I.noTab I.frame) (rl I.frame),λx v e k=>(q.2 x v e k).imp λv' y=>⟨y.1,to y.2⟩⟩,
  λx v e=>(I.cel x v e).imp id λq=>⟨q.1,q.2.imp λa q=>q.imp λo q=>q.imp λv' z=>⟨z.1,hk _ _ z.2.1 (z.2.2.2.2.elim (λy=>I.noTab y.1) I.noTab) (z.2.2.2.2.elim (λy=>rl y.1) rl),z.2.2.1,to z.2.2.2.1,z.2.2.2.2.imp (λy=>⟨up _ _ y.1,y.2⟩) (up _ _)⟩⟩,
  λx hs k=>(I.room x hs k).imp λa q=>q.imp λo q=>q.imp λv z=>⟨z.1,hk _ _ z.2.1 (I.noTab z.2.2.2) (rl z.2.2.2),z.2.2.1,up _ _ z.2.2.2⟩,I.inj⟩
 ·refine(I.stat.old a o e).imp (λz=>?_) λz=>⟨up _ _ z.1,z.2⟩
  cases h:G' a with
  |none=>rfl
  |some r=>
   rcases dn _ _ h with y|⟨_,_,_,y⟩
   ·rw[z] at y;exact Az y
   ·rw[e] at y;exact Ef y
 ·rcases dn _ _ e with z|⟨o',q,z,_⟩
  ·exact hk _ _ (I.fro a o z) (I.noTab z) (rl z)
  ·(injection q with c0;subst c0);exact z
 ·rcases dn _ _ e with z|⟨o',q,z,_⟩
  ·exact(I.low a r z).imp λo e=>hk _ _ e (I.noTab z) (rl z)
  ·exact⟨_,z⟩
theorem Inv.more(I:Inv c G s env ρ)(up:∀a r,G a=some r->G' a=some r)(dn:∀a r,G' a=some r->G a=some r∨∃o,r=.fro o/\s'.heap.get? a=some o/\c.base.get? a=none)
 (hk:∀a o,s.heap.get? a=some o->¬c.isTab a->s'.heap.get? a=some o) (hb:AllBare s'.gens) (hp:0<s'.toks) (ht:∀t∈c.tabs,Qh G' s'.heap t):Inv c G' s' env ρ:=I.more' up dn (λa o e t _=>hk a o e t) hb hp ht
theorem Inv.loose(I:Inv c G s env ρ){W:List Addr}(hw:∀a∈W,G a=none/\c.base.get? a=none)(hk:∀a o,a∉W->s.heap.get? a=some o->s'.heap.get? a=some o)(hb:AllBare s'.gens)(hp:0<s'.toks):Inv c G s' env ρ:=
 I.more' (λ_ _ e=>e) (λ_ _ e=>.inl e) (λa o e _ h=>hk a o (λm=>h (hw a m).1 (hw a m).2) e) hb hp λt m=>(I.stat.tab t m).1.imp λps q=>⟨hk _ _ (λm'=>by have:=(hw _ m').2;rw[(I.stat.tab t m).2] at this;exact Ef this) q.1,q.2⟩
theorem Nx.loose(N:Nx c ρ G s ρ' G' s'){W:List Addr}(hw:∀a∈W,s.heap.get? a=none)(hk:∀a o,a∉W->s'.heap.get? a=some o->s''.heap.get? a=some o)(hg:∀(i:Nat) (x:GenState),s'.gens[i]? =some x->i<s.gens.size->s''.gens[i]? =some x)(ho:s''.os=s'.os):Nx c ρ G s ρ' G' s'':=
 ⟨N.le,N.new,N.own,λa o e n t=>hk a o (λm=>by rw[hw a m] at e;exact Az e) (N.keep a o e n t),λa o e=>(N.live a o e).elim λo' e'=>⟨o',hk a o' (λm=>by rw[hw a m] at e;exact Az e) e'⟩,
  λi x e=>hg i x (N.gens i x e) (Array.getElem?_eq_some_iff.mp e).1,ho.trans N.os,N.dom⟩
theorem Inv.grown(I:Inv c G s env ρ)(hk:∀a o,s.heap.get? a=some o->s'.heap.get? a=some o)(hb:AllBare s'.gens)(hp:0<s'.toks):Inv c G s' env ρ:=
 I.more (λ_ _ e=>e) (λ_ _ e=>.inl e) (λa o e _=>hk a o e) hb hp λt m=>(I.stat.tab t m).1.imp λps q=>⟨hk _ _ q.1,q.2⟩
theorem Nx.grown(hk:∀a o,s.heap.get? a=some o->s'.heap.get? a=some o)(hg:∀(i:Nat) (x:GenState),s.gens[i]? =some x->s'.gens[i]? =some x)(ho:s'.os=s.os):Nx c ρ G s ρ G s':=
 ⟨.refl _,λ_ _ _ e=>e,λ_ _ _ e _=>e,λ_ _ e _ _=>hk _ _ e,λ_ o e=>⟨o,hk _ _ e⟩,hg,ho,λ_ d=>d⟩
theorem Inv.fresh(I:Inv c G s env ρ)(h:s.heap.get? a=none):G a=none:=by
 cases e:G a with
 |none=>rfl
 |some r=>
  obtain⟨o,q⟩:=I.low a r e
  rw[h] at q;exact Az q
theorem Inv.liveBase(I:Inv c G s env ρ)(h:c.base.get? a=some o):∃o',s.heap.get? a=some o':=by
 by_cases t:c.isTab a
 ·revert t;refine Cw λt m Ar=>?_;obtain rfl:=Ar
  exact(I.stat.tab t m).1.elim λps q=>⟨_,q.1⟩
 ·exact⟨o,I.stat.keep a o h t⟩
theorem Inv.baseNone(I:Inv c G s env ρ)(h:s.heap.get? a=none):c.base.get? a=none:=by
 cases e:c.base.get? a with
 |none=>rfl
 |some o=>
  obtain⟨o',q⟩:=I.liveBase e
  rw[h] at q;exact Az q
theorem Gh.le_put{r:AP}(h:G a=none):G.Le (G.put a r):= λb o e=>by
 rw[Gh.put_ne];exact e
 rintro rfl;rw[h] at e;exact Az e
theorem Gh.put_up{r:AP}(h:G a=none)(b:Addr)(r':AP)(e:G b=some r'):G.put a r b=some r':=by
 rw[Gh.put_ne];exact e
 rintro rfl;rw[h] at e;exact Az e
theorem Gh.put_dn{r:AP}(b:Addr)(r':AP)(e:G.put a r b=some r'):(b=a/\r'=r)∨G b=some r':=by
 by_cases q:b=a
 ·subst q;rw[Gh.put_self] at e;(revert e;refine As λc0=>?_;subst c0);exact .inl ⟨rfl,rfl⟩
 ·rw[Gh.put_ne q] at e;exact .inr e
theorem Inv.put(I:Inv c G s env ρ)(g:G a=none)(ho:s.heap.get? a=some o)(hb:c.base.get? a=none):Inv c (G.put a (.fro o)) s env ρ:=
 I.more (Gh.put_up g) (λb r e=>(Gh.put_dn b r e).elim (λ⟨q,q2⟩=>.inr ⟨o,q2,q▸ho,q▸hb⟩) .inl) (λ_ _ e _=>e) I.stat.bare I.stat.tok
  λt m=>(I.stat.tab t m).1.imp λps q=>⟨q.1,q.2.imp λ_ _ _ e _=>Gh.le_put g _ _ e⟩
theorem Nx.put(N:Nx c ρ G s ρ' G' s')(ha:s.heap.get? a=none)(g:G' a=none):Nx c ρ G s ρ' (G'.put a (.fro o)) s' where
 le:=N.le.trans (Gh.le_put g)
 new:= λb o l e=>(Gh.put_ne λq=>by rw[q,ha] at l;exact Az l).trans (N.new b o l e)
 own:= λb x k e d=>by
  by_cases q:b=a
  ·subst q;rw[Gh.put_self] at e;(revert e;refine As λc0=>?_;injection c0)
  ·rw[Gh.put_ne q] at e;exact N.own b x k e d
 keep:=N.keep
 live:=N.live
 gens:=N.gens
 os:=N.os
 dom:=N.dom
theorem aU(l:List (Str×AV))(x:Str)(v:AV)(y:Str):(st l x v).lookup y=if y=x then some v else l.lookup y:=by
 induction l with
 |nil=>
  rw[show st [] x v=[(x,v)] from rfl,List.lookup_cons]
  by_cases q:y=x
  ·simp[q]
  ·have:(y==x)=false:=by simpa using q
   simp[q,this]
 |cons p r ih=>
  obtain⟨z,w⟩:=p
  unfold st
  by_cases h:z=x
  ·rw[if_pos h,List.lookup_cons,List.lookup_cons]
   subst h
   by_cases q:y=z
   ·simp[q]
   ·have:(y==z)=false:=by simpa using q
    simp[q,this]
  ·rw[if_neg h,List.lookup_cons,List.lookup_cons,ih]
   by_cases q:y=z
   ·subst q;simp[h]
   ·have:(y==z)=false:=by simpa using q
    simp[this]
theorem R.get_set(ρ:R)(x:Str)(v:AV)(y:Str):(ρ.set x v).get y=if y=x then some v else ρ.get y:=aU ρ.vars x v y
theorem R.get_self(ρ:R)(x:Str)(v:AV):(ρ.set x v).get x=some v:=by rw[R.get_set,if_pos rfl]
theorem R.dom_set(ρ:R)(x:Str)(v:AV)(y:Str)(h:(ρ.get y).isSome=true):((ρ.set x v).get y).isSome=true:=by
 rw[R.get_set];split
 ·rfl
 ·exact h
theorem Inv.turn(I:Inv c G s env ρ)(hx:ρ.get x=some Co)(S:Qr c G' s')
 (r1:∀a r,G a=some r->(∀k,r≠.own x k)->G' a=some r) (r2:∀a y k,G' a=some (.own y k)->G a=some (.own y k))
 (lo:∀a r,G' a=some r->∃o,s'.heap.get? a=some o) (fr:∀a o,G' a=some (.fro o)->s'.heap.get? a=some o)
 (hk:∀a r o,G a=some r->(∀k,r≠.own x k)->s.heap.get? a=some o->s'.heap.get? a=some o)
 (sf:∀a k,G a=some (.own "self" k)->G' a=some (.own "self" k))
 (ox:∀v',OR c G s.heap x Co v'->OR c G' s'.heap x v v'):Inv c G' s' env (ρ.set x v):=by
 have no:∀(y:Str) (k:Nat),y≠x->∀k':Nat,AP.own y k≠AP.own x k':= λy k ne k' q=>ne (AP.own.inj q).1
 have nf:∀(o:Obj) (k:Nat),AP.fro o≠AP.own x k:= λ_ _ h=>AP.noConfusion h
 have nr:∀k:Nat,AP.frame≠AP.own x k:= λ_ h=>AP.noConfusion h
 have nc:∀k:Nat,AP.cell≠AP.own x k:= λ_ h=>AP.noConfusion h
 have le:G.Le G':= λa o e=>r1 a _ e (nf o)
 have tR:∀y u u',y≠x->OR c G s.heap y u u'->OR c G' s'.heap y u u':= λy u u' ne z=>
  OR.to (x:=y) le (λa k e=>r1 a (.own y k) e (no y k ne)) (λa k o e e'=>hk a (.own y k) o e (no y k ne) e') sf z
 have up:∀y u,(ρ.set x v).get y=some u->(y=x/\u=v)∨(y≠x/\ρ.get y=some u):= λy u e=>by
  rw[R.get_set] at e
  by_cases q:y=x
  ·rw[if_pos q] at e;(revert e;refine As λc0=>?_;subst c0);exact .inl ⟨q,rfl⟩
  ·rw[if_neg q] at e;exact .inr ⟨q,e⟩
 have any:∀y u,(ρ.set x v).get y=some u->∃He,ρ.get y=some He/\∀u',OR c G s.heap y He u'->OR c G' s'.heap y u u':= λy u e=>by
  rcases up y u e with⟨rfl,rfl⟩|⟨ne,e⟩
  ·exact⟨Co,hx,ox⟩
  ·exact⟨u,e,λu' z=>tR y u u' ne z⟩
 refine⟨S,fr,lo,λa b y k e e'=>I.uniq a b y k (r2 _ _ _ e) (r2 _ _ _ e'),λa y k e=>R.dom_set _ _ _ _ (I.res a y k (r2 _ _ _ e)),I.kf,I.gl,I.bi,r1 _ _ I.frame nr,?_,λy u e=>?_,λy hs k=>?_,I.inj⟩
 ·refine Ak (I.ns) λm hn z=>?_
  refine⟨m,hn.at' λo e=>hk _ _ o I.frame nr e,λy u e k=>?_⟩
  refine Ak (any y u e) λHe Hg t=>?_
  exact(z y He Hg k).imp λv' q=>⟨q.1,t _ q.2⟩
 ·refine Ak (any y u e) λHe Hg t=>?_
  refine(I.cel y He Hg).imp id λq=>⟨q.1,q.2.imp λa q=>q.imp λo q=>q.imp λv' z=>?_⟩
  refine⟨z.1,?_,z.2.2.1,t _ z.2.2.2.1,z.2.2.2.2.imp (λz=>⟨r1 _ _ z.1 nc,z.2⟩) (le _ _)⟩
  rcases z.2.2.2.2 with h|h
  ·exact hk _ _ o h.1 nc z.2.1
  ·exact hk _ _ o h (nf o) z.2.1
 ·exact(I.room y hs k).imp λa q=>q.imp λo q=>q.imp λv z=>⟨z.1,hk _ _ o z.2.2.2 nc z.2.1,z.2.2.1,r1 _ _ z.2.2.2 nc⟩
structure Gr (c:Cx) (Ao:Shared) (G:Gh) (s:Shared) (ρ:R) (x:Str) (G':Gh):Prop where
 g1:∀a r,G a=some r->G' a=some r
 g2:∀a r,G' a=some r->G a=some r∨(G a=none/\Ao.heap.get? a=none/\(∃o,s.heap.get? a=some o)/\c.base.get? a=none/\ρ.get x=none/\∃k,r=.own x k)
 g4:∀a b k,G' a=some (.own x k)->G' b=some (.own x k)->a=b
theorem Inv.gr(I:Inv c G s env ρ)(Ao:Shared)(x:Str):Gr c Ao G s ρ x G:=⟨λ_ _ e=>e,λ_ _ e=>.inl e,λa b k=>I.uniq a b x k⟩
theorem Uu(I:Inv c G s env ρ)(N:Nx c AH AC Ao ρ G s)(g:Gr c Ao G s ρ x G')(hv:OR c G' s.heap x v v')
 (ra:G a=some .frame∨G a=some .cell) (hs:Heap.SameBut a s.heap s'.heap) (hp:0<s'.toks) (hg:s'.gens=s.gens) (ho:s'.os=s.os) (hf:∀o,s.heap.get? a=some o->∃o',s'.heap.get? a=some o')
 (CE:∃m,s'.heap.Ns env.locals m/\∀y u,(ρ.set x v).get y=some u->env.kindOf y=some .local->∃u',m y=some u'/\OR c G' s.heap y u u')
 (t9:∀y u,(ρ.set x v).get y=some u->env.kindOf y=some .local∨((env.kindOf y=some .cell∨env.kindOf y=some .free)/\
  ∃b o u',env.cells.lookup y=some b/\s'.heap.get? b=some o/\o.data=.cell (some u')/\OR c G' s.heap y u u'/\((G b=some .cell/\ρ.shut y=false)∨G b=some (.fro o))))
 (EN:∀y,ρ.shut y=false->env.kindOf y=some .cell->∃b o u,env.cells.lookup y=some b/\s'.heap.get? b=some o/\o.data=.cell u/\G b=some .cell):
 Nx c AH AC Ao (ρ.set x v) G' s'/\Inv c G' s' env (ρ.set x v):=by
 have na:∀b r,G' b=some r->(∀r',r=r'->r'≠.frame/\r'≠.cell)->b≠a:= λb r e h q=>by
  subst q
  rcases ra with z|z<;>rw[g.g1 _ _ z] at e<;>(revert e;refine As λc0=>?_;subst c0)
  ·exact(h _ rfl).1 rfl
  ·exact(h _ rfl).2 rfl
 have nf:∀b o,G' b=some (.fro o)->b≠a:= λb o e=>na b _ e λr' q=>by subst q;exact⟨λh=>AP.noConfusion h,λh=>AP.noConfusion h⟩
 have no:∀b y k,G' b=some (.own y k)->b≠a:= λb y k e=>na b _ e λr' q=>by subst q;exact⟨λh=>AP.noConfusion h,λh=>AP.noConfusion h⟩
 have ng:G a≠none:=by rcases ra with z|z<;>rw[z]<;>exact λh=>nomatch h
 have nb:∀b o,c.base.get? b=some o->b≠a:= λb o e q=>by
  rcases I.stat.old b o e with z|z
  ·exact ng (q▸z)
  ·rw[q] at z
   rcases ra with h|h<;>rw[h] at z<;>(have ce:=z.1;revert ce;refine As λc0=>?_;injection c0)
 have le:G.Le G':= λb o e=>g.g1 b _ e
 have fro:∀b o,G' b=some (.fro o)->s'.heap.get? b=some o:= λb o e=>by
  rw[hs.2 b (nf b o e)]
  rcases g.g2 b _ e with e|⟨_,_,_,_,_,k,q⟩
  ·exact I.fro b o e
  ·exact AP.noConfusion q
 have to:∀y u u',OR c G' s.heap y u u'->OR c G' s'.heap y u u':= λy u u' z=>OR.to (x:=y) (.refl _) (λ_ _ e=>e) (λb k o e e'=>(hs.2 b (no b y k e)).trans e') (λ_ _ e=>e) z
 have lv:∀b o,s.heap.get? b=some o->∃o',s'.heap.get? b=some o':= λb o e=>by
  by_cases q:b=a
  ·subst q;exact hf o e
  ·exact⟨o,(hs.2 b q).trans e⟩
 refine⟨⟨N.le.trans le,λb o eb e=>?_,λb y k e d=>?_,λb o e n t=>?_,λb o e=>(N.live b o e).elim (λo' e'=>lv b o' e'),λi y e=>by rw[hg];exact N.gens i y e,ho.trans N.os,λy d=>R.dom_set _ _ _ _ (N.dom y d)⟩,
  ⟨⟨λb o e t=>?_,λb o e=>?_,λt m=>?_,by rw[hg];exact I.stat.bare,hp⟩,fro,λb r e=>?_,λb b' y k e e'=>?_,λb y k e=>?_,I.kf,I.gl,I.bi,g.g1 _ _ I.frame,?_,λy u e=>?_,λy q k=>?_,I.inj⟩⟩
 ·have q:=N.new b o eb e
  cases h:G' b with
  |none=>rfl
  |some r=>
   rcases g.g2 b r h with z|⟨_,z,_⟩
   ·rw[q] at z;exact Az z
   ·rw[eb] at z;exact Ef z
 ·rcases g.g2 b _ e with z|⟨_,_,_,_,z,k',q⟩
  ·exact N.own b y k z d
  ·cases q
   have:=N.dom x d
   rw[z] at this;cases this
 ·rw[hs.2 b (λq=>ng (q▸N.new b o e n))];exact N.keep b o e n t
 ·rw[hs.2 b (nb b o e)]
  exact I.stat.keep b o e t
 ·rcases I.stat.old b o e with z|z
  ·left
   cases h:G' b with
   |none=>rfl
   |some r=>
    rcases g.g2 b r h with z'|⟨_,_,_,z',_⟩
    ·rw[z] at z';exact Az z'
    ·rw[e] at z';exact Ef z'
  ·exact .inr ⟨le _ _ z.1,z.2⟩
 ·obtain⟨⟨ps,e1,e2⟩,z⟩:=I.stat.tab t m
  exact⟨⟨ps,(hs.2 _ (nb _ _ z)).trans e1,e2.imp λc' oc cvs q _=>le _ _ q⟩,z⟩
 ·rcases g.g2 b r e with z|⟨_,_,z,_⟩
  ·exact(I.low b r z).elim (lv b)
  ·exact z.elim (lv b)
 ·by_cases q:y=x
  ·subst q;exact g.g4 b b' k e e'
  ·have d:∀b,G' b=some (.own y k)->G b=some (.own y k):= λb e=>(g.g2 b _ e).elim id λz=>by
    revert z;refine YP λ_ _ _ _ _ k' z=>?_
    (injection z with c0 c1;subst c0;subst c1);exact absurd rfl q
   exact I.uniq b b' y k (d b e) (d b' e')
 ·rcases g.g2 b _ e with z|⟨_,_,_,_,_,k',q⟩
  ·exact R.dom_set _ _ _ _ (I.res b y k z)
  ·(injection q with c0 c1;subst c0;subst c1);rw[R.get_self];rfl
 ·exact CE.imp λm z=>⟨z.1,λy u e k=>(z.2 y u e k).imp λu' q=>⟨q.1,to y u u' q.2⟩⟩
 ·refine(t9 y u e).imp id λq=>⟨q.1,q.2.imp λb q=>q.imp λo q=>q.imp λu' z=>⟨z.1,z.2.1,z.2.2.1,to y u u' z.2.2.2.1,z.2.2.2.2.imp (λz=>⟨g.g1 _ _ z.1,z.2⟩) (le _ _)⟩⟩
 ·exact(EN y q k).imp λb z=>z.imp λo z=>z.imp λu z=>⟨z.1,z.2.1,z.2.2.1,g.g1 _ _ z.2.2.2⟩
set_option tactic.hygienic true in
theorem SR(I:Inv c G s env ρ)(N:Nx c AH AC Ao ρ G s)(Ag:env.scope=sc)(hb:Cy sc x v ρ=some ρ')(g:Gr c Ao G s ρ x G')(hv:OR c G' s.heap x v v'){Q:Unit->Shared->Prop}
 (k:∀s' b,Nx c AH AC Ao ρ' G' s'->Inv c G' s' env ρ'->(G b=some .frame∨G b=some .cell)->Heap.SameBut b s.heap s'.heap->Q () s'):wpAny M A (storeName env x v') Q E s:=by
 subst Ag
 have le:G.Le G':= λb o e=>g.g1 b _ e
 have old:∀y u u',OR c G s.heap y u u'->OR c G' s.heap y u u':= λy u u' z=>OR.to (x:=y) le (λ_ _ e=>g.g1 _ _ e) (λ_ _ _ _ e=>e) (λ_ _ e=>g.g1 _ _ e) z
 unfold Cy at hb
 split at hb
 ·rename_i hl
  (revert hb;refine As λc0=>?_;subst c0)
  refine Ak (I.ns) λm hn z=>?_
  refine wpAny_storeName_local hl hn (λh' CZ hs=>?_) (by rw[I.kf];rfl)
  have J:=Uu (s':={s with heap:=h',toks:=s.toks+1}) I N g hv (.inl I.frame) hs (Nat.succ_pos _) rfl rfl (λo e=>by revert CZ;refine TD λo' _ _ e' _=>?_;exact⟨o',e'⟩)
   ⟨_,CZ,λy u e hk=>by
    rw[R.get_set] at e
    by_cases q:y=x
    ·rw[if_pos q] at e;(revert e;refine As λc0=>?_;subst c0);subst q;exact⟨v',if_pos rfl,hv⟩
    ·rw[if_neg q] at e;refine Ak (z y u e hk) λu' e' w=>?_;exact⟨u',(if_neg q).trans e',old y u u' w⟩⟩
   (λy u e=>by
    rw[R.get_set] at e
    by_cases q:y=x
    ·exact .inl (q▸hl)
    ·rw[if_neg q] at e
     refine(I.cel y u e).imp id λw=>⟨w.1,w.2.imp λb w=>w.imp λo w=>w.imp λu' w=>⟨w.1,?_,w.2.2.1,old y u u' w.2.2.2.1,w.2.2.2.2⟩⟩
     rw[hs.2 b λq=>by subst q;rcases w.2.2.2.2 with r|r<;>rw[I.frame] at r<;>first|(have ce:=r.1;revert ce;refine As λc0=>?_;injection c0)|cases r];exact w.2.1)
   (λy ET hk=>(I.room y ET hk).imp λb w=>w.imp λo w=>w.imp λu w=>⟨w.1,by rw[hs.2 b λq=>by subst q;rw[I.frame] at w;cases w.2.2.2];exact w.2.1,w.2.2⟩)
  exact k _ _ J.1 J.2 (.inl I.frame) hs
 ·rename_i hl
  split at hb
  ·exact Az hb
  ·rename_i sh
   (revert hb;refine As λc0=>?_;subst c0)
   have sh:ρ.shut x=false:=by simpa using sh
   refine D3 (I.room x sh hl) λa o Co e1 e2 e3 e4=>?_
   refine wpAny_storeName_cell I.kf hl e1 ⟨o,e2,e3⟩ λh' ⟨o',hc,hd⟩ hs=>?_
   have J:=Uu (s':={s with heap:=h'}) I N g hv (.inr e4) hs I.stat.tok rfl rfl (λ_ _=>⟨o',hc⟩)
    (I.ns.imp λm z=>⟨z.1.extBut hs.extBut (λq=>by rw[<-q,I.frame] at e4;(revert e4;refine As λc0=>?_;injection c0)),λy u e hk=>by
     rw[R.get_set] at e
     by_cases q:y=x
     ·subst q;rw[show env.kindOf y=some .cell from hl] at hk;(revert hk;refine As λc0=>?_;injection c0)
     ·rw[if_neg q] at e;exact(z.2 y u e hk).imp λu' w=>⟨w.1,old y u u' w.2⟩⟩)
    (λy u e=>by
     rw[R.get_set] at e
     by_cases q:y=x
     ·rw[if_pos q] at e;(revert e;refine As λc0=>?_;subst c0);subst q
      exact .inr ⟨.inl hl,a,o',v',e1,hc,hd,hv,.inl ⟨e4,sh⟩⟩
     ·rw[if_neg q] at e
      refine(I.cel y u e).imp id λw=>⟨w.1,w.2.imp λb w=>w.imp λo w=>w.imp λu' w=>⟨w.1,?_,w.2.2.1,old y u u' w.2.2.2.1,w.2.2.2.2⟩⟩
      rw[hs.2 b λh=>q (I.inj y x b w.1 (h▸e1))];exact w.2.1)
    (λy ET hk=>by
     by_cases q:y=x
     ·subst q;exact⟨a,o',_,e1,hc,hd,e4⟩
     ·exact(I.room y ET hk).imp λb w=>w.imp λo w=>w.imp λu w=>⟨w.1,by rw[hs.2 b λh=>q (I.inj y x b w.1 (h▸e1))];exact w.2.1,w.2.2⟩)
   exact k _ _ J.1 J.2 (.inr e4) hs
 ·exact Az hb
theorem GG(I:Inv c G s env ρ)(N:Nx c AH AC Ao ρ G s)(Ag:env.scope=sc)(hb:Cy sc x v ρ=some ρ')(g:Gr c Ao G s ρ x G')(hv:OR c G' s.heap x v v'){Q:Unit->Shared->Prop}
 (k:∀s',Nx c AH AC Ao ρ' G' s'->Inv c G' s' env ρ'->Q () s'):wpAny M A (storeName env x v') Q E s:=SR I N Ag hb g hv λs' _ a b _ _=>k s' a b
section
variable (prog:Program) (w:World) (c:Cx)
noncomputable def SE(n:Nat)(sc:Scope)(e:PySem.Expr)(ρ:R)(v:AV)(ρ':R):Prop:=
 ∀(A:Around) (env:Env) (G:Gh) (s:Shared) (Q:Value->Shared->Prop) (E:Value->Shared->Prop),OkA A n->Cu c sc env->Inv c G s env ρ->
  (∀G' s' v',Nx c ρ G s ρ' G' s'->Inv c G' s' env ρ'->VR G' v v'->Q v' s')->wpAny (model prog w) A (eval e env) Q E s
noncomputable def ST(n:Nat)(sc:Scope)(e:PySem.Expr)(ρ:R)(b:Bool)(ρ':R):Prop:=
 ∀(A:Around) (env:Env) (G:Gh) (s:Shared) (Q:Bool->Shared->Prop) (E:Value->Shared->Prop),OkA A n->Cu c sc env->Inv c G s env ρ->
  (∀G' s',Nx c ρ G s ρ' G' s'->Inv c G' s' env ρ'->Q b s')->wpAny (model prog w) A (isTrue e env (eval e env)) Q E s
noncomputable def MD(G:Gh):Fl->Flow->Prop
 |.next,.next=>True
 |.cont,.cont=>True
 |.ret v,.ret v'=>VR G v v'
 |_,_=>False
noncomputable def SS(n:Nat)(sc:Scope)(b:List Stmt)(ρ:R)(f:Fl)(ρ':R):Prop:=
 ∀(A:Around) (env:Env) (G:Gh) (s:Shared) (Q:Flow->Shared->Prop) (E:Value->Shared->Prop),OkA A n->Cu c sc env->Inv c G s env ρ->
  (∀G' s' f',Nx c ρ G s ρ' G' s'->Inv c G' s' env ρ'->MD G' f f'->Q f' s')->wpAny (model prog w) A (execs b env) Q E s
structure Bd (n:Nat) (r:Ev):Prop where
 e:∀sc e ρ v ρ',r.e sc e ρ=some (v,ρ')->SE prog w c n sc e ρ v ρ'
 t:∀sc e ρ b ρ',r.t sc e ρ=some (b,ρ')->ST prog w c n sc e ρ b ρ'
 ss:∀sc b ρ f ρ',r.ss sc b ρ=some (f,ρ')->SS prog w c n sc b ρ f ρ'
end
theorem OkA.lift(h:OkA A (n+1)):OkA A n:=⟨h.1,by have:=h.2.1;exact Ac 0x14c384334415110114a3843344154121101 Aa this,by have:=h.2.2;exact Ac 0x14c23284343c25110114a23284343c254121101 Aa this⟩
theorem Inv.toks(I:Inv c G s env ρ)(k:Nat)(hp:0<k:=by exact Nat.succ_pos _):Inv c G {s with toks:=k} env ρ:=I.grown (λ_ _ e=>e) I.stat.bare hp
theorem Nx.toks(k:Nat):Nx c ρ G s ρ G {s with toks:=k}:=.grown (λ_ _ e=>e) (λ_ _ e=>e) rfl
theorem SE.none{k pos:_}:SE prog w c n sc (.Constant .none k pos) ρ .none ρ:= λ_ _ _ _ _ _ _ _ I h=>wpAny_Constant_none (h _ _ _ (.refl ..) I .none)
theorem SE.bool{b k pos:_}:SE prog w c n sc (.Constant (.bool b) k pos) ρ (.bool b) ρ:= λ_ _ _ _ _ _ _ _ I h=>wpAny_Constant_bool (h _ _ _ (.refl ..) I .bool)
theorem SE.int{b k pos:_}:SE prog w c n sc (.Constant (.int b) k pos) ρ (.int b) ρ:= λ_ _ _ _ _ _ _ _ I h=>wpAny_Constant_int (h _ _ _ (.toks _) (I.toks _) .int)
theorem SE.str{b k pos:_}:SE prog w c n sc (.Constant (.str b) k pos) ρ (.str b) ρ:= λ_ _ _ _ _ _ _ _ I h=>wpAny_Constant_str (h _ _ _ (.toks _) (I.toks _) .str)
theorem Li(I:Inv c G s env ρ)(hf:o.isFreed=false):
 Nx c ρ G s ρ (G.put s.heap.objs.size (.fro o)) {s with heap:=s.heap.push o}/\Inv c (G.put s.heap.objs.size (.fro o)) {s with heap:=s.heap.push o} env ρ:=by
 have d:s.heap.get? s.heap.objs.size=none:=Heap.get?_none_of_le (Nat.le_refl _)
 have g:=I.fresh d
 have J:Inv c G {s with heap:=s.heap.push o} env ρ:=I.grown (λ_ _ e=>Heap.get?_push_of_some _ e) I.stat.bare I.stat.tok
 exact⟨(Nx.grown (λ_ _ e=>Heap.get?_push_of_some _ e) (λ_ _ e=>e) rfl:Nx c ρ G s ρ G {s with heap:=s.heap.push o}).put d g,J.put g (Heap.get?_push_size _ hf) (I.baseNone d)⟩
theorem mY(I:Inv c G s env ρ)(hx:ρ.get x=some (.ol xs))(Yh:x≠"self")(hv:OL G s.heap x 0 xs v'):
 ∃G',Nx c ρ G s (ρ.set x (.list xs)) G' s/\Inv c G' s env (ρ.set x (.list xs))/\VR G' (.list xs) v':=by
 revert hv;refine DO λa vs Ar ga Fy B0=>?_;obtain rfl:=Ar;obtain⟨n,ha⟩:=Fy
 have le:G.Le (G.put a (.fro {cls:=.type "list",data:=.seq vs n})):= λb o e=>by
  rw[Gh.put_ne];exact e
  rintro rfl;rw[ga] at e;(revert e;refine As λc0=>?_;injection c0)
 have ne:∀{b r},G b=some r->(∀k,r≠.own x k)->b≠a:= λe h q=>by subst q;rw[ga] at e;(revert e;refine As λc0=>?_;subst c0);exact h 0 rfl
 have nb:c.base.get? a=none:=by
  cases e:c.base.get? a with
  |none=>rfl
  |some o=>rcases I.stat.old a o e with z|⟨z,_⟩<;>rw[ga] at z<;>cases z
 have dn:∀{b r},G.put a (.fro {cls:=.type "list",data:=.seq vs n}) b=some r->(b=a/\r=.fro {cls:=.type "list",data:=.seq vs n})∨G b=some r:= λ{b r} e=>by
  by_cases q:b=a
  ·subst q;rw[Gh.put_self] at e;(revert e;refine As λc0=>?_;subst c0);exact .inl ⟨rfl,rfl⟩
  ·rw[Gh.put_ne q] at e;exact .inr e
 have own:∀b y k,G.put a (.fro {cls:=.type "list",data:=.seq vs n}) b=some (.own y k)->G b=some (.own y k):= λb y k e=>(dn e).elim (λq=>AP.noConfusion q.2) id
 have V:VR (G.put a (.fro {cls:=.type "list",data:=.seq vs n})) (.list xs) (.ref a):=.list (Gh.put_self ..) (B0.mono le)
 refine⟨_,⟨le,λb _ _ e=>?_,λb y k e _=>own b y k e,λ_ _ e _ _=>e,λ_ o e=>⟨o,e⟩,λ_ _ e=>e,rfl,λy d=>R.dom_set _ _ _ _ d⟩,I.turn hx ⟨I.stat.keep,λb o e=>?_,λt m=>?_,I.stat.bare,I.stat.tok⟩
  (λb r e h=>(Gh.put_ne (ne e h)).trans e) own (λb r e=>?_) (λb o e=>?_) (λ_ _ _ _ _ e=>e) (λb k e=>?_) λv' z=>?_,V⟩
 ·rw[Gh.put_ne];exact e
  rintro rfl;rw[ga] at e;exact Ef e
 ·rw[Gh.put_ne];exact I.stat.old b o e
  rintro rfl;rw[nb] at e;exact Az e
 ·obtain⟨⟨ps,e1,e2⟩,z⟩:=I.stat.tab t m
  exact⟨⟨ps,e1,e2.imp λc' oc cvs q _=>le _ _ q⟩,z⟩
 ·rcases dn e with⟨rfl,_⟩|q
  ·exact I.low _ _ ga
  ·exact I.low _ _ q
 ·rcases dn e with⟨rfl,q⟩|q
  ·(injection q with c0;subst c0);exact ha
  ·exact I.fro _ _ q
 ·exact(Gh.put_ne (ne e λk' q=>Yh (AP.own.inj q).1.symm)).trans e
 ·revert z;refine DO λa' KN Ar s7 Fy Sl=>?_;obtain rfl:=Ar;obtain⟨n',ha'⟩:=Fy
  obtain rfl:=I.uniq a' a x 0 s7 ga
  exact V
theorem AL{P:Prop}{o:Option α}{f:α->Option β}{b:β}(h:(o>>= f)=some b)(k:∀a,o=some a->f a=some b->P):P:=(Option.bind_eq_some_iff.mp h).elim λa h=>k a h.1 h.2
theorem BQ{P:Prop}{o:Option (α×OY)}{f:α×OY->Option β}{b:β}(h:(o>>= f)=some b)(k:∀v r,o=some (v,r)->f (v,r)=some b->P):P:=(Option.bind_eq_some_iff.mp h).elim λa h=>k a.1 a.2 h.1 h.2
theorem Ai{P:Prop}{o:Option α}{f:α->Option β}{b:β}(k:∀a,o=some a->f a=some b->P)(h:(o>>= f)=some b):P:=AL h k
theorem Bv{P:Prop}{o:Option (α×OY)}{f:α×OY->Option β}{b:β}(k:∀v r,o=some (v,r)->f (v,r)=some b->P)(h:(o>>= f)=some b):P:=BQ h k
theorem CP{o:Option α}{f:α->Option β}{b:β}(h:(o>>= f)=some b):∃a,o=some a/\f a=some b:=Option.bind_eq_some_iff.mp h
theorem AI{b:Bool}{u:Unit}(h:AG b=some u):b=true:=by
 unfold AG at h
 split at h
 ·assumption
 ·exact Az h
theorem Me(h:DI x=false):(x==("__debug__":Str))=false/\(x==("__classdict__":Str))=false:=Bool.or_eq_false_iff.mp h
set_option tactic.hygienic true in
theorem Od(h:Ca sc x ρ=some v):ρ.get x=some v/\DI x=false:=by
 unfold Ca at h
 split at h
 ·rename_i q
  exact⟨h,by simpa using(Bool.and_eq_true_iff.mp q).2⟩
 ·exact Az h
theorem Sv(I:Inv c G s env ρ)(hx:Ca sc x ρ=some v)(k:∀v',OR c G s.heap x v v'->Q v' s):wpAny M A (loadName env x) Q E s:=by
 obtain⟨hx,ho⟩:=Od hx
 refine Ak (I.ns) λm hn z=>?_
 rcases I.cel x v hx with h|⟨hk,a,o,v',e1,e2,e3,e4,_⟩
 ·refine Ak (z x v hx h) λv' e w=>?_
  exact wpAny_loadName_local I.kf h hn e (k v' w)
 ·rcases hk with h|h
  ·exact wpAny_loadName_cell I.kf h e1 ⟨o,e2,e3⟩ (k v' e4)
  ·exact wpAny_loadName_free I.kf h e1 ⟨o,e2,e3⟩ (k v' e4) (Me ho).2
theorem CF(I:Inv c G s env ρ)(hx:Ca sc x ρ=some v)(k:∀v',OR c G s.heap x v v'->Q v' s):wpAny M A (eval (.Name x pos) env) Q E s:=
 wpAny_Name (Sv I hx k) (Me (Od hx).2).1
theorem OR.free(hf:v.free=true)(z:OR c G h x v v'):VR G v v':=by
 cases v with
 |ol|lex|cit|clo=>cases hf
 |_=>exact z
theorem EK(h:v.ol?=some xs):v=.ol xs:=by
 cases v with
 |ol=>(revert h;refine As λc0=>?_;subst c0);rfl
 |_=>exact Az h
set_option tactic.hygienic true in
theorem SE.name(h:UU sc x ρ=some (v,ρ')):SE prog w c n sc (.Name x pos) ρ v ρ':=by
 intro A env G s Q E _ Ag I k
 revert h;refine Ai λu hx h=>?_
 split at h
 ·rename_i xs ho
  obtain rfl:=EK ho
  split at h
  ·exact Az h
  ·rename_i ns
   (revert h;refine AO λc1 c2=>?_;subst c1;subst c2)
   refine CF I hx λv' z=>?_
   refine Cf (mY I (Od hx).1 ns z) λG' N J V=>?_
   exact k _ _ _ N J V
 ·split at h
  ·rename_i hf
   (revert h;refine AO λc1 c2=>?_;subst c1;subst c2)
   exact CF I hx λv' z=>k _ _ _ (.refl ..) I (z.free hf)
  ·exact Az h
theorem SE.then(H:SE prog w c n sc e ρ v ρ')(hA:OkA A n)(Ag:Cu c sc env)(I:Inv c G s env ρ)(N:Nx c AH AC Ao ρ G s)
 (k:∀G' s' v',Nx c AH AC Ao ρ' G' s'->Inv c G' s' env ρ'->G.Le G'->VR G' v v'->Q v' s'):wpAny (model prog w) A (eval e env) Q E s:=
 H A env G s Q E hA Ag I λG' s' v' N' I' V=>k G' s' v' (N.trans N') I' N'.le V
theorem Nh(h:v.int?=some i):v=.int i:=by
 cases v with
 |int=>(revert h;refine As λc0=>?_;subst c0);rfl
 |_=>exact Az h
theorem MU{i:Str}(h:v.str?=some i):v=.str i:=by
 cases v with
 |str=>(revert h;refine As λc0=>?_;subst c0);rfl
 |_=>exact Az h
theorem mK{i:Bool}(h:v.bool?=some i):v=.bool i:=by
 cases v with
 |bool=>(revert h;refine As λc0=>?_;subst c0);rfl
 |_=>exact Az h
theorem m8{i:List AV}(h:v.list?=some i):v=.list i:=by
 cases v with
 |list=>(revert h;refine As λc0=>?_;subst c0);rfl
 |_=>exact Az h
theorem mD{i:List AV}(h:v.tup?=some i):v=.tup i:=by
 cases v with
 |tup=>(revert h;refine As λc0=>?_;subst c0);rfl
 |_=>exact Az h
theorem T1(h:v.none?=true):v=.none:=by
 cases v with
 |none=>rfl
 |_=>exact Ck h
theorem VR.isInt(h:v.int?=some i)(z:VR G v v'):∃t,v'=.int i t:=by
 obtain rfl:=Nh h;cases z;exact⟨_,rfl⟩
theorem VR.isStr{i:Str}(h:v.str?=some i)(z:VR G v v'):∃t,v'=.str i t:=by
 obtain rfl:=MU h;cases z;exact⟨_,rfl⟩
theorem VR.isBool{i:Bool}(h:v.bool?=some i)(z:VR G v v'):v'=.bool i:=by
 obtain rfl:=mK h;cases z;rfl
set_option tactic.hygienic true in
theorem VR.isList(h:v.list?=some xs)(z:VR G v v'):∃a vs n,v'=.ref a/\G a=some (.fro {cls:=.type "list",data:=.seq vs n})/\VRs G xs vs.toList:=by
 obtain rfl:=m8 h;cases z;exact⟨_,_,_,rfl,‹_›,‹_›⟩
set_option tactic.hygienic true in
theorem VR.isTup(h:v.tup?=some xs)(z:VR G v v'):∃a vs n,v'=.ref a/\G a=some (.fro {cls:=.type "tuple",data:=.seq vs n})/\VRs G xs vs.toList:=by
 obtain rfl:=mD h;cases z;exact⟨_,_,_,rfl,‹_›,‹_›⟩
theorem Hp(h:k<=Bg):k<=sizeLine:=by rw[sizeLine_eq];exact Nat.le_trans h (by decide)
theorem Inv.lst(I:Inv c G s env ρ){vs:Array Value}(h:G a=some (.fro {cls:=.type "list",data:=.seq vs k})):s.heap.IsList a vs:=⟨_,I.fro _ _ h,rfl,k,rfl⟩
theorem Zg{a b:Int}(h:0<b/\b<1000):Builtin.divisionGoesByPylong a b=false:=by
 obtain⟨k,rfl⟩:=Int.eq_ofNat_of_zero_le (Int.le_of_lt h.1)
 have h1:k.log2<10:=(Nat.log2_lt (Nat.ne_of_gt (Int.ofNat_lt.mp h.1))).mpr (Nat.lt_trans (Int.ofNat_lt.mp h.2) (by decide))
 have h2:¬(if(((k:Nat):Int)==0)=true then 0 else k.log2/30+1)>300:=by
  split
  ·decide
  ·rw[Nat.div_eq_of_lt (Nat.lt_trans h1 (by decide))];decide
 exact Bool.and_eq_false_iff.mpr (.inl (decide_eq_false h2))
theorem nV{n:Int}(h: -1000<=n/\n<=1000/\x.length=1):MulOk x n:=by
 refine⟨by simp only[Bool.or_eq_false_iff,decide_eq_false_iff_not];omega,λh1 _=>?_,λh1 _=>?_⟩
 ·rw[h.2.2]
  have:1<=(2 ^ 63 - 1)/n:=(Int.le_ediv_iff_mul_le (by exact EX 0x12c010213a1201 Aa h1)).mpr (by omega)
  exact EX 0x13c7120110a0112 Aa this
 ·rw[h.2.2]
  unfold Builtin.Str.tooLong
  simp only[decide_eq_false_iff_not]
  rw[sizeLine_eq]
  exact HR (λA6 Af=>BO 0x17c1150110000007310a3e8330110b01701 Aa h.2.1 Af) (λA6 Af=>Ah 0x17c1150110000007314b0201 Aa Af)
theorem Zj{a b:AV}(h:Ww a b=some v)(Va:VR G a a')(Vb:VR G b b')(I:Inv c G s env ρ)
 (k:∀G' s' v',Nx c ρ G s ρ G' s'->Inv c G' s' env ρ->VR G' v v'->Q v' s'):wpAny (model prog w) A (binaryOp .Add a' b') Q E s:=by
 cases Va with
 |int=>
  revert h;refine Ai λy hy h=>?_
  obtain⟨t,rfl⟩:=VR.isInt hy Vb
  (revert h;refine As λc0=>?_;subst c0)
  exact add_int (k _ _ _ (.toks _) (I.toks _) .int)
 |str=>
  revert h;refine Ai λy hy h=>?_
  revert h;refine Ai λu hg h=>?_
  obtain⟨t,rfl⟩:=VR.isStr hy Vb
  (revert h;refine As λc0=>?_;subst c0)
  exact wpAny_with_toks I.stat.tok (add_str (λ_ tk ht=>k _ _ _ (.toks tk) (I.toks tk ht) .str) (Hp (of_decide_eq_true (AI hg))))
 |@list xs a vs₀ Mq ga ra=>
  revert h;refine Ai λy hy h=>?_
  revert h;refine Ai λu hg h=>?_
  refine EW (VR.isList hy Vb) λb vs m B2 gb rb=>?_;obtain rfl:=B2
  (revert h;refine As λc0=>?_;subst c0)
  have hz:=Hp (of_decide_eq_true (AI hg))
  rw[ra.length,rb.length] at hz
  obtain⟨N,J⟩:=Li I (o:={cls:=.type "list",data:=.seq (vs₀++vs)}) rfl
  refine concat_meets ⟨_,I.fro _ _ ga,rfl⟩ ⟨_,I.fro _ _ gb,rfl⟩ noFill_list_add seq_list_add PySem.F.slot_list_add PySem.F.entry_list_add (PySem.F.args_list_add_2 _ _) (list_addW _ _ _ _ _ _ _ _ _ _ (by simpa using hz)) ⟨I.fro _ _ ga,I.fro _ _ gb,?_⟩
  refine k _ _ _ N J (.list (Gh.put_self ..) ?_)
  rw[Array.toList_append];exact(ra.mono N.le).append (rb.mono N.le)
 |none=>cases h
 |bool=>cases h
 |tup=>cases h
 |raw=>exact Az h
theorem ZV{a b:AV}(h:CG op a b=some v)(Va:VR G a a')(Vb:VR G b b')(I:Inv c G s env ρ)
 (k:∀G' s' v',Nx c ρ G s ρ G' s'->Inv c G' s' env ρ->VR G' v v'->Q v' s'):wpAny (model prog w) A (binaryOp op a' b') Q E s:=by
 cases op with
 |Add=>exact Zj h Va Vb I k
 |Sub=>
  revert h;refine Ai λx hx h=>?_
  revert h;refine Ai λy hy h=>?_
  obtain⟨t,rfl⟩:=VR.isInt hx Va
  obtain⟨u,rfl⟩:=VR.isInt hy Vb
  (revert h;refine As λc0=>?_;subst c0)
  exact sub_int (k _ _ _ (.toks _) (I.toks _) .int)
 |FloorDiv=>
  revert h;refine Ai λx hx h=>?_
  revert h;refine Ai λy hy h=>?_
  revert h;refine Ai λu hg h=>?_
  obtain⟨t,rfl⟩:=VR.isInt hx Va
  obtain⟨u,rfl⟩:=VR.isInt hy Vb
  (revert h;refine As λc0=>?_;subst c0)
  have hy:=of_decide_eq_true (AI hg)
  exact floordiv_int (by exact λBk=>EX 0x12a010210b0201 Aa hy.1 Bk) (k _ _ _ (.toks _) (I.toks _) .int) (.inl (Zg hy))
 |Mod=>
  revert h;refine Ai λx hx h=>?_
  revert h;refine Ai λy hy h=>?_
  revert h;refine Ai λu hg h=>?_
  obtain⟨t,rfl⟩:=VR.isInt hx Va
  obtain⟨u,rfl⟩:=VR.isInt hy Vb
  (revert h;refine As λc0=>?_;subst c0)
  have hy:=of_decide_eq_true (AI hg)
  exact mod_int' (by exact λBk=>EX 0x12a010210b0201 Aa hy.1 Bk) (k _ _ _ (.toks _) (I.toks _) .int)
 |Mult=>
  revert h;refine Ai λx hx h=>?_
  revert h;refine Ai λy hy h=>?_
  revert h;refine Ai λu hg h=>?_
  obtain⟨t,rfl⟩:=VR.isStr hx Va
  obtain⟨u,rfl⟩:=VR.isInt hy Vb
  (revert h;refine As λc0=>?_;subst c0)
  have hy:=of_decide_eq_true (AI hg)
  exact wpAny_with_toks I.stat.tok (SB.mul (nV hy) λ_ tk ht=>k _ _ _ (.toks tk) (I.toks tk ht) .str)
 |_=>exact Az h
theorem Rd{f:AV->Option PyData}(F:∀v d v',f v=some d->VR G v v'->∃as,Reads h v' d as)(e:GS f xs=some ds)(q:VRs G xs vs):∃as,ReadsAll h vs ds as:=
 q.ind (P:= λxs vs=>∀ds,GS f xs=some ds->∃as,ReadsAll h vs ds as) (λ_ e=>by cases e;exact⟨_,.nil⟩) (λ_ _ _ _ a _ ih _ e=>Ai (λd hd e=>Ai (λds hs e=>(F _ _ _ hd a).elim λas q=>(ih ds hs).elim λbs p=>by cases e;exact⟨_,.cons q p⟩) e) e) ds e
theorem Fg{o:Option α}{f:α->β}{b:β}(h:o.map f=some b):∃a,o=some a/\f a=b:=Option.map_eq_some_iff.mp h
theorem VO(fro:∀a o,G a=some (.fro o)->h.get? a=some o):∀(n:Nat) (v:AV) (d:PyData) (v':Value),Gk n v=some d->VR G v v'->∃as,Reads h v' d as:=by
 intro Al
 induction Al with
 |zero=>
  intro _ _ _ e _
  exact nomatch e
 |succ n ih=>
  intro _ _ _ e V
  cases V with
  |none=>(revert e;refine As λc0=>?_;subst c0);exact⟨_,.none⟩
  |bool=>(revert e;refine As λc0=>?_;subst c0);exact⟨_,.bool _⟩
  |int=>(revert e;refine As λc0=>?_;subst c0);exact⟨_,.int _ _⟩
  |str=>(revert e;refine As λc0=>?_;subst c0);exact⟨_,.str _ _⟩
  |tup g z=>
   refine Ak (Fg e) λds hs Ar=>?_;obtain rfl:=Ar
   obtain⟨as,q⟩:=Rd (ih) hs z
   exact⟨_,.tuple (fro _ _ g) rfl rfl q⟩
  |list g z=>
   refine Ak (Fg e) λds hs Ar=>?_;obtain rfl:=Ar
   obtain⟨as,q⟩:=Rd (ih) hs z
   exact⟨_,.list (fro _ _ g) rfl rfl q⟩
  |raw=>exact Az e
theorem PV(I:Inv c G s env ρ){d:PyData}(e:LK v=some d)(V:VR G v v'):(∃as,Reads s.heap v' d as)/\SeqAt.shaped d=true:=by
 revert e;refine Ai λd' hd e=>?_
 revert e;refine Ai λu hg e=>?_
 (revert e;refine As λc0=>?_;subst c0)
 exact⟨VO I.fro _ _ _ _ hd V,AI hg⟩
theorem OkA.room(h:OkA A n):A.units+64<cLine:=by
 have:=h.2.2
 show A.units+64<9900
 exact Ac 0x16c26ac43440230114a23284343c251101 Aa this
theorem OkA.room2(h:OkA A n):A.units+100<cLine:=by
 have:=h.2.2
 show A.units+100<9900
 exact Ac 0x16c26ac43464230114a23284343c251101 Aa this
set_option tactic.hygienic true in
theorem WW{a b:AV}{t:Bool}(h:IL a b=some t)(Va:VR G a a')(Vb:VR G b b')(I:Inv c G s env ρ)(hA:OkA A n):
 (Q (.bool t) s->wpAny (model prog w) A (compareOp .Eq a' b') Q E s)/\(Q (.bool !t) s->wpAny (model prog w) A (compareOp .NotEq a' b') Q E s):=by
 unfold IL at h
 split at h
 ·rename_i x hx
  revert h;refine Ai λy hy h=>?_
  obtain⟨_,rfl⟩:=VR.isInt hx Va
  obtain⟨_,rfl⟩:=VR.isInt hy Vb
  (revert h;refine As λc0=>?_;subst c0)
  exact⟨eq_int,ne_int⟩
 ·split at h
  ·rename_i x hx
   revert h;refine Ai λy hy h=>?_
   obtain⟨_,rfl⟩:=VR.isStr hx Va
   obtain⟨_,rfl⟩:=VR.isStr hy Vb
   (revert h;refine As λc0=>?_;subst c0)
   exact⟨eq_str,ne_str⟩
  ·revert h;refine Ai λd hd h=>?_
   revert h;refine Ai λe he h=>?_
   (revert h;refine As λc0=>?_;subst c0)
   obtain⟨⟨as,ra⟩,sa⟩:=PV I hd Va
   obtain⟨⟨bs,rb⟩,sb⟩:=PV I he Vb
   exact⟨eq_dataH ra rb sa sb hA.room,ne_dataH ra rb sa sb hA.room⟩
theorem U9{a b:AV}{t:Bool}(h:F3 a b=some t)(Va:VR G a a')(Vb:VR G b b')(I:Inv c G s env ρ)(hA:OkA A n):
 (Q (.bool t) s->wpAny (model prog w) A (compareOp .In a' b') Q E s)/\(Q (.bool !t) s->wpAny (model prog w) A (compareOp .NotIn a' b') Q E s):=by
 cases Vb with
 |str=>
  revert h;refine Ai λy hy h=>?_
  obtain⟨_,rfl⟩:=VR.isStr hy Va
  (revert h;refine As λc0=>?_;subst c0)
  exact⟨SB.contains,SB.notContains⟩
 |list g z=>
  revert h;refine Ai λd hd h=>?_
  revert h;refine Ai λds hs h=>?_
  revert h;refine Ai λu hg h=>?_
  (revert h;refine As λc0=>?_;subst c0)
  obtain⟨⟨as,ra⟩,sa⟩:=PV I hd Va
  obtain⟨bs,rb⟩:=Rd (VO I.fro 4) hs z
  have hu:A.units+1+min (PyData.depthAll ds) d.depth<cLine:=by
   have:=hA.room2
   have:=SeqAt.depth_of_shaped sa
   have:=Nat.min_le_right (PyData.depthAll ds) d.depth
   omega
  exact⟨SeqAt.in_list_reads (.list (I.fro _ _ g) rfl rfl rb) ra (AI hg) (SeqAt.canLay_of_shaped sa) hu,SeqAt.notIn_list_reads (.list (I.fro _ _ g) rfl rfl rb) ra (AI hg) (SeqAt.canLay_of_shaped sa) hu⟩
 |_=>exact Az h
set_option tactic.hygienic true in
theorem WV{a b:AV}{t:Bool}(h:PM a b=some t)(Va:VR G a a')(Vb:VR G b b'):
 (Q (.bool t) s->wpAny (model prog w) A (compareOp .Is a' b') Q E s)/\(Q (.bool !t) s->wpAny (model prog w) A (compareOp .IsNot a' b') Q E s):=by
 have plain:∀{x y:Value},plainIs x y=true->(x==y)=t->(Q (.bool t) s->wpAny (model prog w) A (compareOp .Is x y) Q E s)/\(Q (.bool !t) s->wpAny (model prog w) A (compareOp .IsNot x y) Q E s):= λp e=>by
  subst e;exact⟨wpAny_is_plain p,wpAny_isNot_plain p⟩
 cases Va with
 |bool=>
  revert h;refine Ai λy hy h=>?_
  obtain rfl:=VR.isBool hy Vb
  (revert h;refine As λc0=>?_;subst c0)
  exact plain rfl (by rename_i x;cases x<;>cases y<;>rfl)
 |none|int=>
  revert h;refine Ai λu hg h=>?_
  obtain rfl:=T1 (AI hg)
  cases Vb;(revert h;refine As λc0=>?_;subst c0)
  exact plain rfl rfl
 |_=>exact Az h
set_option tactic.hygienic true in
theorem fV{op:CmpOp}{a b:AV}{t:Bool}(h:Du op a b=some t)(Va:VR G a a')(Vb:VR G b b')(I:Inv c G s env ρ)(hA:OkA A n)
 (k:Q (.bool t) s):wpAny (model prog w) A (compareOp op a' b') Q E s:=by
 cases op with
 |Eq=>exact(WW h Va Vb I hA).1 k
 |NotEq=>refine Ak (Fg h) λu hu Ar=>?_;obtain rfl:=Ar;exact(WW hu Va Vb I hA).2 k
 |In=>exact(U9 h Va Vb I hA).1 k
 |NotIn=>refine Ak (Fg h) λu hu Ar=>?_;obtain rfl:=Ar;exact(U9 hu Va Vb I hA).2 k
 |Is=>exact(WV h Va Vb).1 k
 |IsNot=>refine Ak (Fg h) λu hu Ar=>?_;obtain rfl:=Ar;exact(WV hu Va Vb).2 k
 |Gt=>
  revert h;refine Ai λx hx h=>?_
  revert h;refine Ai λy hy h=>?_
  obtain⟨_,rfl⟩:=VR.isInt hx Va
  obtain⟨_,rfl⟩:=VR.isInt hy Vb
  (revert h;refine As λc0=>?_;subst c0)
  exact gt_int k
 |Lt=>
  cases Va with
  |int=>
   revert h;refine Ai λy hy h=>?_
   obtain⟨_,rfl⟩:=VR.isInt hy Vb
   (revert h;refine As λc0=>?_;subst c0)
   exact wpAny_lt_int k
  |bool=>
   revert h;refine Ai λy hy h=>?_
   obtain rfl:=VR.isBool hy Vb
   (revert h;refine As λc0=>?_;subst c0)
   refine lt_bool ?_
   rename_i x
   cases x<;>cases y<;>exact k
  |_=>cases h
 |_=>exact Az h
theorem E2{l:List α}{a:α}(h:EF l=some a):l=[a]:=by
 cases l with
 |nil=>exact Az h
 |cons x r=>cases r with
  |nil=>exact congrArg (· ::[]) (Option.some.inj h)
  |cons _ _=>exact Az h
theorem LH{l:List α}{a b:α}(h:JR l=some (a,b)):l=[a,b]:=by
 cases l with
 |nil=>exact Az h
 |cons x r=>cases r with
  |nil=>exact Az h
  |cons y r=>cases r with
   |nil=>exact congrArg (λp:α×α=>[p.1,p.2]) (Option.some.inj h)
   |cons _ _=>exact Az h
theorem EB(h:Eg e=some x):∃p,e=.Name x p:=by
 exact(FD h:)
theorem Tl{k:Const}(h:PJ e=some k):∃j p,e=.Constant k j p:=by
 exact(FD h:)
theorem Jk{p:Int×List AV×List AV}(h:v.lex?=some p):v=.lex p.1 p.2.1 p.2.2:=by
 cases v with
 |lex=>(revert h;refine As λc0=>?_;subst c0);rfl
 |_=>exact Az h
theorem HS{o:PySem.Expr}{l:Int}{q t:List AV}(h:Hl sc o ρ=some (x,l,q,t)):(∃p,o=.Name x p)/\Ca sc x ρ=some (.lex l q t):=by
 revert h;refine Ai λy hy h=>?_
 revert h;refine Ai λv hv h=>?_
 revert h;refine Ai λp hp h=>?_
 (revert h;refine AO λc1 c2=>?_;subst c1;revert c2;refine FI λc3 c4=>?_;subst c3;revert c4;refine FI λc5 c6=>?_;subst c5;subst c6)
 rw[Jk hp] at hv
 exact⟨EB hy,hv⟩
theorem Np{k:Const}(h:Ge k=some v):SE prog w c n sc (.Constant k j pos) ρ v ρ:=by
 cases k with
 |none=>(revert h;refine As λc0=>?_;subst c0);exact .none
 |bool=>(revert h;refine As λc0=>?_;subst c0);exact .bool
 |int=>(revert h;refine As λc0=>?_;subst c0);exact .int
 |str=>(revert h;refine As λc0=>?_;subst c0);exact .str
 |_=>exact Az h
theorem SE.bin(hr:Bd prog w c n r){a b:PySem.Expr}(h:IJ r top sc (.BinOp a op b pos) ρ=some (v,ρ')):SE prog w c n sc (.BinOp a op b pos) ρ v ρ':=by
 revert h;refine Bv λx Aw hx h=>?_
 revert h;refine Bv λy B8 hy h=>?_
 revert h;refine Ai λu hu h=>?_
 (revert h;refine AO λc1 c2=>?_;subst c1;subst c2)
 intro A env G s Q E hA Ag I k
 refine wpAny_BinOp ((hr.e _ _ _ _ _ hx).then hA Ag I (.refl ..) λAv Ad Fv Au An _ Bj=>?_)
 refine(hr.e _ _ _ _ _ hy).then hA Ag An Au λAY A4 I9 A8 Ax L Dk=>?_
 exact ZV hu (Bj.mono L) Dk Ax λCq AU R9 AM Bf Gv=>k _ _ _ (A8.trans AM) Bf Gv
theorem Uc{p:Scope×Arguments×PySem.Expr×List (Str×AV)}(h:v.clo?=some p):v=.clo p.1 p.2.1 p.2.2.1 p.2.2.2:=by
 cases v with
 |clo=>(revert h;refine As λc0=>?_;subst c0);rfl
 |_=>exact Az h
theorem UE{a:PySem.Expr}{p:Scope×Arguments×PySem.Expr×List (Str×AV)}(h:Ji sc a ρ=some p):∃x pos,a=.Name x pos/\Ca sc x ρ=some (.clo p.1 p.2.1 p.2.2.1 p.2.2.2):=by
 revert h;refine Ai λx hx h=>?_
 revert h;refine Ai λv hv h=>?_
 rw[Uc h] at hv
 obtain⟨pos,e⟩:=EB hx
 exact⟨x,pos,e,hv⟩
theorem fB{k:Const}(h:Ge k=some (.int i)):k=.int i:=by
 cases k<;>cases h<;>rfl
theorem iP{k:Const}{i:Str}(h:Ge k=some (.str i)):k=.str i:=by
 cases k<;>cases h<;>rfl
theorem L7(h:JU e=some v):∃k j p,e=.Constant k j p/\Ge k=some v:=by
 refine Ak (CP (f:=Ge) h) λk hk h=>?_
 refine EU (Tl hk) λj p Ar=>?_;obtain rfl:=Ar
 exact⟨k,j,p,rfl,h⟩
set_option tactic.hygienic true in
theorem Vk(hr:Bd prog w c n r){a:PySem.Expr}{t:Bool}(h:Qc r sc a EO cs ρ=some (t,ρ'))(hA:OkA A n)(Ag:Cu c sc env)(I:Inv c G s env ρ):
 (∀Q:Value->Shared->Prop,(∀G' s',Nx c ρ G s ρ' G' s'->Inv c G' s' env ρ'->Q (.bool t) s')->wpAny (model prog w) A (eval (.Compare a EO cs pos) env) Q E s)/\
 (∀(whole:Sem Value) (Q:Bool->Shared->Prop),(∀G' s',Nx c ρ G s ρ' G' s'->Inv c G' s' env ρ'->Q t s')->wpAny (model prog w) A (isTrue (.Compare a EO cs pos) env whole) Q E s):=by
 revert h;refine Ai λop ho h=>?_
 revert h;refine Ai λb hb h=>?_
 revert h;refine Ai λ_ hm h=>?_
 have hm:behindInMarks op b=false:=by simpa using AI hm
 split at h
 ·rename_i hc
  revert h;refine Ai λu hu h=>?_
  revert h;refine Ai λ_ hg h=>?_
  (revert h;refine AO λc1 c2=>?_;subst c1;subst c2)
  obtain rfl:=E2 ho
  obtain rfl:=E2 hb
  refine Dc (UE hc) λx sY Ar hx=>?_;obtain rfl:=Ar
  refine DS (L7 hu) λk' j p B2 hk=>?_;obtain rfl:=B2
  obtain⟨g1,g2⟩:=Bool.and_eq_true_iff.mp (AI hg)
  obtain rfl:=T1 g2
  have e:op=.Is:=by cases op<;>first|rfl|exact Ck g1
  subst e
  have go:∀Q:Value->Shared->Prop,(∀G' s',Nx c ρ G s ρ G' s'->Inv c G' s' env ρ->Q (.bool false) s')->wpAny (model prog w) A (eval (.Name x sY) env) (λa' Ad=>wpAny (model prog w) A (eval (.Constant k' j p) env) (λb' A4=>wpAny (model prog w) A (compareOp .Is a' b') Q E A4) E Ad) E s:= λQ k=>
   CF I hx λv' z=>by
    revert z;refine S8 λf _ _ _ _ _ _ Ru _=>?_;obtain rfl:=Ru
    exact(Np (n:=n) hk).then hA Ag I (.refl ..) λAv Ad Fv Au An _ Bj=>by
     cases Bj
     exact wpAny_is_plain rfl (k _ _ Au An)
  exact⟨λQ k=>wpAny_Compare1 (go Q k) hm,λwhole Q k=>wpAny_isTrue_Compare1 (go _ λG' s' N J=>wpAny_truthy_bool (k G' s' N J)) hm⟩
 revert h;refine Bv λx Aw hx h=>?_
 revert h;refine Bv λy B8 hy h=>?_
 revert h;refine Ai λu hu h=>?_
 cases h
 obtain rfl:=E2 ho
 obtain rfl:=E2 hb
 have go:∀Q:Value->Shared->Prop,(∀G' s',Nx c ρ G s ρ' G' s'->Inv c G' s' env ρ'->Q (.bool t) s')->wpAny (model prog w) A (eval a env) (λa' Ad=>wpAny (model prog w) A (eval b env) (λb' A4=>wpAny (model prog w) A (compareOp op a' b') Q E A4) E Ad) E s:= λQ k=>
  (hr.e _ _ _ _ _ hx).then hA Ag I (.refl ..) λAv Ad Fv Au An _ Bj=>(hr.e _ _ _ _ _ hy).then hA Ag An Au λAY A4 I9 A8 Ax L Dk=>fV hu (Bj.mono L) Dk Ax hA (k _ _ A8 Ax)
 exact⟨λQ k=>wpAny_Compare1 (go Q k) hm,λwhole Q k=>wpAny_isTrue_Compare1 (go _ λG' s' N J=>wpAny_truthy_bool (k G' s' N J)) hm⟩
theorem SE.ifexp(hr:Bd prog w c n r){a b:PySem.Expr}(h:IJ r top sc (.IfExp t a b pos) ρ=some (v,ρ')):SE prog w c n sc (.IfExp t a b pos) ρ v ρ':=by
 revert h;refine Bv λx Aw hx h=>?_
 intro A env G s Q E hA Ag I k
 refine wpAny_IfExp (hr.t _ _ _ _ _ hx A env G s _ _ hA Ag I λAv Ad Au An=>?_)
 cases x with
 |true=>rw[if_pos rfl];exact(hr.e _ _ _ _ _ h).then hA Ag An Au λAY A4 I9 A8 Ax _ Dk=>k _ _ _ A8 Ax Dk
 |false=>rw[if_neg Bool.false_ne_true];exact(hr.e _ _ _ _ _ h).then hA Ag An Au λAY A4 I9 A8 Ax _ Dk=>k _ _ _ A8 Ax Dk
theorem SE.unary{a:PySem.Expr}{op:UnaryOp}(h:IJ r top sc (.UnaryOp op a pos) ρ=some (v,ρ')):SE prog w c n sc (.UnaryOp op a pos) ρ v ρ':=by
 revert h;refine Ai λk' hk h=>?_
 revert h;refine Ai λu hu h=>?_
 revert h;refine Ai λi hi h=>?_
 refine EU (Tl hk) λj p Ar=>?_;obtain rfl:=Ar
 obtain rfl:=Nh hi
 intro A env G s Q E hA Ag I k
 cases op with
 |USub=>
  (revert h;refine AO λc1 c2=>?_;subst c1;subst c2)
  refine wpAny_UnaryOp ((Np (n:=n) hu).then hA Ag I (.refl ..) λAv Ad Fv Au An _ Bj=>?_)
  cases Bj
  exact neg_int (k _ _ _ (Au.trans (.toks _)) (An.toks _) .int)
 |_=>exact Az h
theorem ST.bool(hr:Bd prog w c n r){t:Bool}(h:∃v,r.e sc e ρ=some (v,ρ')/\v.bool?=some t)(hs:∀env,isTrue e env (eval e env)=(do let v <-eval e env;standAt e.pos;holding [v] (truthy v))):ST prog w c n sc e ρ t ρ':=by
 revert h;refine Cw λv hv hb=>?_
 intro A env G s Q E hA Ag I k
 refine wpAny_isTrue_value ((hr.e _ _ _ _ _ hv).then hA Ag I (.refl ..) λAv Ad Fv Au An _ Bj=>?_) (hs env)
 obtain rfl:=VR.isBool hb Bj
 exact wpAny_truthy_bool (k _ _ Au An)
theorem ST.ol(hv:Ca sc x ρ=some v)(ho:v.ol?=some xs)(hl:xs.length<=Bg):ST prog w c n sc (.Name x pos) ρ (!xs.isEmpty) ρ:=by
 obtain rfl:=EK ho
 intro A env G s Q E hA Ag I k
 refine wpAny_isTrue_value (CF I hv λv' z=>?_) rfl
 revert z;refine DO λa vs Ar ga Fy B0=>?_;obtain rfl:=Ar;obtain⟨m,ha⟩:=Fy
 have e:xs.length=vs.size:=B0.length
 refine wpAny_truthy_list ⟨_,ha,rfl,m,rfl⟩ ?_ ?_
 ·rw[<-e];unfold Bg at hl;omega
 ·have e:vs.isEmpty=xs.isEmpty:=by
   rw[Array.isEmpty,<-e]
   cases xs<;>rfl
  rw[e]
  exact k _ _ (.toks _) (I.toks _)
theorem D7(h:BI e=true):starEach (e::es) env=(false,eval e env)::starEach es env:=by
 cases e with
 |Starred=>exact Ck h
 |_=>rfl
theorem EC(hr:Bd prog w c n r)(hA:OkA A n)(Ag:Cu c sc env):∀{es:List PySem.Expr} {ρ ρ':R} {vs:List AV} {G:Gh} {s:Shared} {Q:List Value->Shared->Prop},BY r sc es ρ=some (vs,ρ')->
 Inv c G s env ρ->Nx c AH AC Ao ρ G s->(∀G' s' KN,Nx c AH AC Ao ρ' G' s'->Inv c G' s' env ρ'->G.Le G'->VRs G' vs KN->Q KN s')->
 wpAny (model prog w) A (spliced (backTo pos (starEach es env))) Q E s:=by
 intro Al
 induction Al with
 |nil=>
  intro _ _ _ _ _ _ h I N k
  (revert h;refine AO λc1 c2=>?_;subst c1;subst c2);exact spliced_nil (k _ _ _ N I (.refl _) .nil)
 |cons e es ih=>
  intro ρ _ _ _ _ _ h I N k
  revert h;refine Ai λ_ hg h=>?_
  revert h;refine Bv λv Aw hv h=>?_
  revert h;refine Bv λvs B8 hs h=>?_
  (revert h;refine AO λc1 c2=>?_;subst c1;subst c2)
  rw[D7 (AI hg)]
  refine spliced_cons ((hr.e _ _ _ _ _ hv).then hA Ag I N λAv Ad Fv Au An B5 Bj=>ih hs An Au λAY A4 vU A8 Ax Ea Dk=>k _ _ _ A8 Ax (B5.trans Ea) (.cons (Bj.mono Ea) Dk))
theorem Uh(h:VRs G xs vs)(g:decide (xs.length<=Bg)=true):vs.length<=sizeLine:=by
 rw[<-h.length];exact Hp (of_decide_eq_true g)
theorem SE.tuple(hr:Bd prog w c n r)(h:IJ r top sc (.Tuple es k pos) ρ=some (v,ρ')):SE prog w c n sc (.Tuple es k pos) ρ v ρ':=by
 revert h;refine Bv λvs Aw hs h=>?_
 revert h;refine Ai λ_ hg h=>?_
 (revert h;refine AO λc1 c2=>?_;subst c1;subst c2)
 intro A env G s Q E hA Ag I k
 refine wpAny_Tuple_spliced (EC hr hA Ag hs I (.refl ..) λAv Ad vs₁ Au An _ Bj=>⟨Uh Bj (AI hg),?_⟩)
 obtain⟨N,J⟩:=Li An (o:={cls:=.type "tuple",data:=.seq vs₁.toArray}) rfl
 exact k _ _ _ (Au.trans N) J (.tup (Gh.put_self ..) (Bj.mono N.le))
structure Kt (c:Cx) (G:Gh) (Ao s:Shared) (a:Addr) (xs:List AV) (vs:Array Value):Prop where
 nor:G a=Option.none
 at':PL s.heap a vs
 ge:Ao.heap.get? a=Option.none
 base:c.base.get? a=none
 vrs:VRs G xs vs.toList
noncomputable def FE(prog:Program)(w:World)(c:Cx)(n:Nat)(sc:Scope)(e:PySem.Expr)(ρ:R)(xs:List AV)(ρ':R):Prop:=
 ∀(A:Around) (env:Env) (G:Gh) (s:Shared) (Q:Value->Shared->Prop) (E:Value->Shared->Prop),OkA A n->Cu c sc env->Inv c G s env ρ->
  (∀G' s' a vs,Nx c ρ G s ρ' G' s'->Inv c G' s' env ρ'->Kt c G' s s' a xs vs->Q (.ref a) s')->wpAny (model prog w) A (eval e env) Q E s
theorem FE.keep(h:FE prog w c n sc e ρ xs ρ'):SE prog w c n sc e ρ (.list xs) ρ':= λA env G s Q E hA Ag I k=>
 h A env G s Q E hA Ag I λG' s' a vs N J F=>F.at'.elim λm e=>k _ s' _ (N.put F.ge F.nor) (J.put F.nor e F.base) (.list (Gh.put_self ..) (F.vrs.mono (Gh.le_put F.nor)))
theorem Inv.grow(I:Inv c G s env ρ)(o:Obj):Inv c G {s with heap:=s.heap.push o} env ρ:=I.grown (λ_ _ e=>Heap.get?_push_of_some _ e) I.stat.bare I.stat.tok
theorem Nx.grow(o:Obj):Nx c ρ G s ρ G {s with heap:=s.heap.push o}:=.grown (λ_ _ e=>Heap.get?_push_of_some _ e) (λ_ _ e=>e) rfl
theorem Yv(I:Inv c G s env ρ)(N:Nx c AH AC Ao ρ G s){vs:Array Value}(V:VRs G xs vs.toList):
 Kt c G Ao {s with heap:=s.heap.push {cls:=.type "list",data:=.seq vs}} s.heap.objs.size xs vs:=
 ⟨I.fresh (Heap.get?_none_of_le (Nat.le_refl _)),⟨_,Heap.get?_push_size _ rfl⟩,N.dead (Heap.get?_none_of_le (Nat.le_refl _)),I.baseNone (Heap.get?_none_of_le (Nat.le_refl _)),V⟩
theorem FE.list(hr:Bd prog w c n r)(h:GL r sc (.List es pos) ρ=some (xs,ρ')):FE prog w c n sc (.List es pos) ρ xs ρ':=by
 revert h;refine Bv λvs Aw hs h=>?_
 revert h;refine Ai λ_ hg h=>?_
 (revert h;refine AO λc1 c2=>?_;subst c1;subst c2)
 intro A env G s Q E hA Ag I k
 refine wpAny_List_spliced (EC hr hA Ag hs I (.refl ..) λAv Ad vs₁ Au An _ Bj=>⟨Uh Bj (AI hg),?_⟩)
 exact k _ _ _ _ (Au.trans (.grow _)) (An.grow _) (Yv An Au Bj)
theorem P6{k:Int}{m:Nat}(h:0<=k)(hn:k.toNat<n)(e:n=m):seqIndex? k m=some k.toNat:=by
 subst e
 have h1:¬k<0:=by exact EX 0x13c020110a0102 Aa h
 have h2:(decide (0<=k)&&decide (k<(n:Int)))=true:=by simp only[Bool.and_eq_true,decide_eq_true_eq];exact⟨EX 0x10c010213a0201 Aa h1,IY 0x12c7110116a110110a70101 Aa hn (Int.self_le_toNat _)⟩
 simp only[seqIndex?,h1,if_false,h2,if_true]
theorem l6(sl:PySem.Expr)(o i:Value):∃EO,subscripted sl false o i=operate EO (getItem o i):=by
 cases sl with
 |Slice a b c d=>cases c<;>exact⟨_,rfl⟩
 |_=>exact⟨_,rfl⟩
theorem VV{p:Option PySem.Expr×Option PySem.Expr×Option PySem.Expr}(h:Lk e=some p):∃q,e=.Slice p.1 p.2.1 p.2.2 q:=by
 exact(FD h:)
theorem Lu{o i:Value}{T id:String}(hT:s.TypeIs o T)(hl:typeLookup (.type T) "__getitem__"=pure (some (.builtin id)))
 (hg:wpAny (model prog w) A (getItem o i) Q E s):wpAny (model prog w) A (subscriptTail value slice o i) Q E s:=by
 obtain⟨EO,e⟩:=l6 slice o i
 exact tail_any hT hl hg e
theorem item_list{vs:Array Value}{i:AV}(hl:s.heap.IsList a vs)(V:VRs G xs vs.toList)(h:El (.list xs) i=some u)(Vi:VR G i i')
 (k:∀u',VR G u u'->Q u' s):wpAny (model prog w) A (subscriptTail value slice (.ref a) i') Q E s:=by
 revert h;refine Ai λj hj h=>?_
 revert h;refine Ai λ_ hg h=>?_
 obtain⟨t,rfl⟩:=VR.isInt hj Vi
 obtain⟨hg,FV⟩:=of_decide_eq_true (AI hg)
 refine Ak (V.get h) λu' e W=>?_
 exact Lu hl.typeIs list_getitem_lookup (wpAny_getItem_list hl hg (by omega) (by simpa using e) (k u' W))
theorem lV{o i:AV}(I:Inv c G s env ρ)(V:VR G o o')(h:El o i=some u)(Vi:VR G i i')
 (k:∀G' s' u',Nx c ρ G s ρ G' s'->Inv c G' s' env ρ->VR G' u u'->Q u' s'):wpAny (model prog w) A (subscriptTail value slice o' i') Q E s:=by
 cases V with
 |list g V=>exact item_list (I.lst g) V h Vi λu' W=>k _ _ _ (.refl ..) I W
 |tup g V=>
  revert h;refine Ai λj hj h=>?_
  revert h;refine Ai λ_ hg h=>?_
  obtain⟨t,rfl⟩:=VR.isInt hj Vi
  obtain⟨hg,FV⟩:=of_decide_eq_true (AI hg)
  refine Ak (V.get h) λu' e W=>?_
  have T:IsTup s.heap _ _:=⟨_,I.fro _ _ g,rfl,_,rfl⟩
  have rC:=P6 hg (List.getElem?_eq_some_iff.mp h).1 (V.length.trans (Array.length_toList ..))
  exact Lu T.typeIs slot_tuple_getitem.lookup (getItem_tuple T (by omega) (by omega) rC (by simpa using e) (k _ _ _ (.refl ..) I W))
 |str=>
  revert h;refine Ai λj hj h=>?_
  revert h;refine Ai λ_ hg h=>?_
  obtain⟨t,rfl⟩:=VR.isInt hj Vi
  obtain⟨hg,FV⟩:=of_decide_eq_true (AI hg)
  refine Ak (Fg h) λx hx Ar=>?_;obtain rfl:=Ar
  refine Lu (typeIs_str _ _ _) F.slot_str_getitem.lookup (P.getItem_str ?_ ?_ (k _ _ _ (.toks _) (I.toks _) .str))
  ·simp only[Bool.or_eq_false_iff,decide_eq_false_iff_not];omega
  ·exact(congrArg (Option.bind · _) (P6 hg (Array.getElem?_eq_some_iff.mp hx).1 rfl)).trans hx
 |none|bool|int|raw=>
  revert h;refine Ai λj hj h=>?_
  revert h;refine Ai λ_ hg h=>?_
  exact Az h
theorem Q6(hr:Bd prog w c n r)(hA:OkA A n)(Ag:Cu c sc env){e:Option PySem.Expr}{m:Option Int}(h:IZ r sc e ρ=some (m,ρ'))(I:Inv c G s env ρ)(N:Nx c AH AC Ao ρ G s)
 (k:∀G' s' v',Nx c AH AC Ao ρ' G' s'->Inv c G' s' env ρ'->G.Le G'->IsPart v' m->Q v' s'):wpAny (model prog w) A (evalPart e env) Q E s:=by
 cases e with
 |none=>(revert h;refine AO λc1 c2=>?_;subst c1;subst c2);exact wpAny_pure (k _ _ _ N I (.refl _) .none)
 |some e=>
  revert h;refine Bv λv Aw hv h=>?_
  revert h;refine Ai λi hi h=>?_
  (revert h;refine AO λc1 c2=>?_;subst c1;subst c2)
  refine(hr.e _ _ _ _ _ hv).then hA Ag I N λAv Ad Fv Au An B5 Bj=>?_
  obtain⟨t,rfl⟩:=VR.isInt hi Bj
  exact k _ _ _ Au An B5 (.int _ _)
theorem VZ(hr:Bd prog w c n r)(hA:OkA A n)(Ag:Cu c sc env){lo hi CS:Option PySem.Expr}{p:Pos}{m:Option Int×Option Int×Option Int}(h:Kj r sc lo hi CS ρ=some (m,ρ'))(I:Inv c G s env ρ)(N:Nx c AH AC Ao ρ G s)
 (k:∀G' s' sl vl vu vs,Nx c AH AC Ao ρ' G' s'->Inv c G' s' env ρ'->G.Le G'->s'.heap.IsSliceOf sl vl vu vs->IsPart vl m.1->IsPart vu m.2.1->IsPart vs m.2.2->m.2.2≠some 0->Q (.ref sl) s'):wpAny (model prog w) A (eval (.Slice lo hi CS p) env) Q E s:=by
 revert h;refine Bv λl Aw hl h=>?_
 revert h;refine Bv λu B8 hu h=>?_
 revert h;refine Bv λt C2 ht h=>?_
 revert h;refine Ai λ_ hg h=>?_
 (revert h;refine AO λc1 c2=>?_;subst c1;subst c2)
 refine wpAny_Slice (Q6 hr hA Ag hl I N λAv Ad Fv Au An B5 uT=>Q6 hr hA Ag hu An Au λAY A4 I9 A8 Ax Ea tX=>Q6 hr hA Ag ht Ax A8 λCq AU R9 AM Bf Eb qJ=>?_)
 exact k _ _ _ _ _ _ (AM.trans (.grow _)) (Bf.grow _) ((B5.trans Ea).trans Eb) (Heap.IsSliceOf.new ..) uT tX qJ (of_decide_eq_true (AI hg))
theorem slice_list{vs:Array Value}{vl vu vt:Value}{l h t:Option Int}(I:Inv c G s env ρ)(hl:s.heap.IsList a vs)(V:VRs G xs vs.toList)(hv:D5 (.list xs) l h t=some u)
 (hs:s.heap.IsSliceOf sl vl vu vt) (p1:IsPart vl l) (p2:IsPart vu h) (p3:IsPart vt t) (h0:t≠some 0)
 (k:∀G' s' u',Nx c ρ G s ρ G' s'->Inv c G' s' env ρ->VR G' u u'->Q u' s'):wpAny (model prog w) A (subscriptTail value slice (.ref a) (.ref sl)) Q E s:=by
 revert hv;refine Ai λ_ hg hv=>?_
 (revert hv;refine As λc0=>?_;subst c0)
 obtain⟨N,J⟩:=Li I (o:={cls:=.type "list",data:=.seq (slicePick vs l h t)}) rfl
 have e:xs.length=vs.size:=V.length
 refine Lu hl.typeIs list_getitem_lookup (wpAny_getItem_list_slice hl hs p1 p2 p3 h0 (k _ _ _ N J (.list (Gh.put_self ..) ?_)) (e▸Hp (of_decide_eq_true (AI hg))))
 have q:VRs G (GK xs l h t) (slicePick vs l h t).toList:=by
  unfold GK slicePick
  rw[<-e]
  simpa using V.pikk _
 exact q.mono N.le
theorem UL{v:Value}{m:Option Int}(h:IsPart v m):∃p:Option (Int×Tok),v=partValue p/\p.map (·.1)=m:=by
 cases h with
 |none=>exact⟨none,rfl,rfl⟩
 |int i t=>exact⟨some (i,t),rfl,rfl⟩
theorem ZL{o:AV}{vl vu vt:Value}{l h t:Option Int}(I:Inv c G s env ρ)(V:VR G o o')(hv:D5 o l h t=some u)
 (hs:s.heap.IsSliceOf sl vl vu vt) (p1:IsPart vl l) (p2:IsPart vu h) (p3:IsPart vt t) (h0:t≠some 0)
 (k:∀G' s' u',Nx c ρ G s ρ G' s'->Inv c G' s' env ρ->VR G' u u'->Q u' s'):wpAny (model prog w) A (subscriptTail value slice o' (.ref sl)) Q E s:=by
 cases V with
 |list g V=>exact slice_list I (I.lst g) V hv hs p1 p2 p3 h0 k
 |@str x tk=>
  revert hv;refine Ai λ_ hg hv=>?_
  (revert hv;refine As λc0=>?_;subst c0)
  obtain⟨g1,g2⟩:=Bool.and_eq_true_iff.mp (AI hg)
  cases p3 with
  |int=>cases g1
  |none=>
   refine Ak (UL p1) λq1 Bc Ar=>?_;obtain rfl:=Bc;obtain rfl:=Ar
   refine Ak (UL p2) λq2 Bc Ar=>?_;obtain rfl:=Bc;obtain rfl:=Ar
   revert hs;refine Rm λo e1 e2 e3=>?_
   exact wpAny_with_toks I.stat.tok (Lu (typeIs_str _ _ _) F.slot_str_getitem.lookup (wpAny_getItem_str_slice (l:=q1) (u:=q2) (st:=none) ⟨o,e1,e2,e3⟩ rfl
    (post_val_or_str ⟨Nat.le_trans (Txt.slice_le x _ _) (Hp (of_decide_eq_true g2)),λt' k' ht=>k _ _ _ (.toks k') (I.toks k' ht) .str⟩)))
 |none|bool|int|tup|raw=>exact Az hv
theorem Inv.or(I:Inv c G s env ρ)(hx:ρ.get x=some v):∃v',OR c G s.heap x v v':=by
 refine Ak (I.ns) λm _ z=>?_
 rcases I.cel x v hx with h|⟨_,a,o,v',_,_,_,e,_⟩
 ·exact(z x v hx h).imp λ_ q=>q.2
 ·exact⟨v',e⟩
theorem La(I:Inv c G s env ρ)(N:Nx c ρ G s ρ' G' s')(I':Inv c G' s' env ρ')(ga:G a=some (.own x 0))(h:ρ'.get x=some (.ol xs)):
 G' a=some (.own x 0)/\∃vs,PL s'.heap a vs/\VRs G' xs vs.toList:=by
 refine D3 (I'.or h) λv' b vs B2 gb hb V=>?_;obtain rfl:=B2
 obtain rfl:=I.uniq _ _ _ _ (N.own _ _ _ gb (I.res _ _ _ ga)) ga
 exact⟨gb,vs,hb,V⟩
theorem Nq(h:Cs sc e ρ=some (x,xs)):(∃p,e=.Name x p)/\Ca sc x ρ=some (.ol xs):=by
 revert h;refine Ai λy hy h=>?_
 revert h;refine Ai λv hv h=>?_
 revert h;refine Ai λys ho h=>?_
 (revert h;refine AO λc1 c2=>?_;subst c1;subst c2)
 rw[EK ho] at hv
 exact⟨EB hy,hv⟩
theorem PL.list{vs:Array Value}(h:PL s.heap a vs):s.heap.IsList a vs:=h.elim λn e=>⟨_,e,rfl,n,rfl⟩
set_option tactic.hygienic true in
theorem SE.sub(hr:Bd prog w c n r){sl:PySem.Expr}(h:Ri r sc e sl ρ=some (v,ρ')):SE prog w c n sc (.Subscript e sl pos) ρ v ρ':=by
 unfold Ri at h
 intro A env G s Q E hA Ag I k
 split at h
 ·rename_i x O3 ho
  obtain⟨⟨p,rfl⟩,hx⟩:=Nq ho
  refine Subscript_ (CF I hx λv' z=>?_)
  revert z;refine DO λa vs₀ Ar ga _ _=>?_;obtain rfl:=Ar
  split at h
  ·rename_i lo hi CS hs
   obtain⟨q,rfl⟩:=VV hs
   revert h;refine Bv λm Aw hm h=>?_
   revert h;refine Ai λo DZ h=>?_
   revert h;refine Ai λxs Cn h=>?_
   revert h;refine Ai λu hu h=>?_
   (revert h;refine AO λc1 c2=>?_;subst c1;subst c2)
   obtain rfl:=EK Cn
   refine VZ hr hA Ag hm I (.refl ..) λAv Ad sl vl vu vt Au An _ hS p1 p2 p3 h0=>?_
   refine Kn (La I Au An ga DZ) λ_ vs hl V=>?_
   exact slice_list An hl.list V hu hS p1 p2 p3 h0 λAY A4 u' A8 Ax W=>k _ _ _ (Au.trans A8) Ax W
  ·revert h;refine Ai λ_ _ h=>?_
   revert h;refine Bv λi Aw hi h=>?_
   revert h;refine Ai λo DZ h=>?_
   revert h;refine Ai λxs Cn h=>?_
   revert h;refine Ai λu hu h=>?_
   (revert h;refine AO λc1 c2=>?_;subst c1;subst c2)
   obtain rfl:=EK Cn
   refine(hr.e _ _ _ _ _ hi).then hA Ag I (.refl ..) λAv Ad i' Au An _ Bj=>?_
   refine Kn (La I Au An ga DZ) λ_ vs hl V=>?_
   exact item_list hl.list V hu Bj λu' W=>k _ _ _ Au An W
 ·split at h
  ·rename_i lo hi CS hs
   obtain⟨q,rfl⟩:=VV hs
   revert h;refine Bv λo AH ho h=>?_
   revert h;refine Bv λm Aw hm h=>?_
   revert h;refine Ai λu hu h=>?_
   (revert h;refine AO λc1 c2=>?_;subst c1;subst c2)
   refine Subscript_ ((hr.e _ _ _ _ _ ho).then hA Ag I (.refl ..) λAC Ao o' Gu H6 _ JB=>?_)
   refine VZ hr hA Ag hm H6 Gu λAv Ad sl vl vu vt Au An B5 hS p1 p2 p3 h0=>?_
   exact ZL An (JB.mono B5) hu hS p1 p2 p3 h0 λAY A4 u' A8 Ax W=>k _ _ _ (Au.trans A8) Ax W
  ·revert h;refine Ai λ_ _ h=>?_
   revert h;refine Bv λo AH ho h=>?_
   revert h;refine Bv λi Aw hi h=>?_
   revert h;refine Ai λu hu h=>?_
   (revert h;refine AO λc1 c2=>?_;subst c1;subst c2)
   refine Subscript_ ((hr.e _ _ _ _ _ ho).then hA Ag I (.refl ..) λAC Ao o' Gu H6 _ JB=>?_)
   refine(hr.e _ _ _ _ _ hi).then hA Ag H6 Gu λAv Ad i' Au An B5 Bj=>?_
   exact lV An (JB.mono B5) hu Bj λAY A4 u' A8 Ax W=>k _ _ _ (Au.trans A8) Ax W
structure Lend (G Gb:Gh) (h:Heap):Prop where
 fro:∀a o,G a=some (.fro o)->Gb a=some (.fro o)
 nor:∀a,G a=none->Gb a=none
 rl:∀a r,Gb a=some r->(∃o,r=.fro o/\(G a=some (.fro o)∨(h.get? a=some o/\∀f,o.data≠.fields f)))∨∃p k x j,r=.own p k/\G a=some (.own x j)
 frame:∀a,G a=some .frame->Gb a=none
 uniq:∀a b p k,Gb a=some (.own p k)->Gb b=some (.own p k)->a=b
open Classical in
noncomputable def Gh.enter(Gb:Gh)(n:Nat)(env:Env):Gh:= λa=>if a<n then Gb a else if a=env.locals then some .frame else if ∃x,env.cells.lookup x=some a then some .cell else none
theorem Gh.enter_lt(h:a<n):Gb.enter n env a=Gb a:=if_pos h
set_option tactic.hygienic true in
theorem Gh.enter_rl{r:AP}(h:¬a<n)(e:Gb.enter n env a=some r):(a=env.locals/\r=.frame)∨((∃x,env.cells.lookup x=some a)/\r=.cell):=by
 unfold Gh.enter at e
 rw[if_neg h] at e
 split at e
 ·(revert e;refine As λc0=>?_;subst c0);exact .inl ⟨‹_›,rfl⟩
 ·split at e
  ·(revert e;refine As λc0=>?_;subst c0);exact .inr ⟨‹_›,rfl⟩
  ·exact Az e
theorem Lend.live(L:Lend G Gb s.heap)(I:Inv c G s env ρ){r:AP}(e:Gb a=some r):∃o,s.heap.get? a=some o:=by
 cases h:G a with
 |none=>rw[L.nor a h] at e;cases e
 |some r'=>exact I.low a r' h
theorem Lend.low(L:Lend G Gb s.heap)(I:Inv c G s env ρ){r:AP}(e:Gb a=some r):a<s.heap.objs.size:=(L.live I e).elim λ_ e=>Heap.lt_size e
theorem Lend.at'(L:Lend G Gb s.heap)(I:Inv c G s env ρ)(e:Gb a=some (.fro o)):s.heap.get? a=some o:=by
 rcases L.rl a _ e with⟨o',q,z⟩|⟨_,_,_,_,q,_⟩
 ·(injection q with c0;subst c0)
  rcases z with z|z
  ·exact I.fro _ _ z
  ·exact z.1
 ·injection q
structure Jp (c:Cx) (Gb:Gh) (s s':Shared) (env:Env) (ρ:R):Prop where
 ge:s.heap.objs.size<=env.locals
 keep:∀a o,s.heap.get? a=some o->s'.heap.get? a=some o
 gens:s'.gens=s.gens
 tok:0<s'.toks
 kf:env.scope.kind=.function
 gl:env.globals=mainGlobals
 bi:env.builtins=builtinsNs
 ns:∃m,s'.heap.Ns env.locals m/\∀x v,ρ.get x=some v->env.kindOf x=some .local->∃v',m x=some v'/\OR c Gb s.heap x v v'
 cel:∀x v,ρ.get x=some v->env.kindOf x=some .local∨((env.kindOf x=some .cell∨env.kindOf x=some .free)/\∃a o v',env.cells.lookup x=some a/\s'.heap.get? a=some o/\o.data=.cell (some v')/\OR c Gb s.heap x v v'/\
  ((s.heap.objs.size<=a/\a≠env.locals/\ρ.shut x=false)∨Gb a=some (.fro o)))
 room:∀x,ρ.shut x=false->env.kindOf x=some .cell->∃a o v,env.cells.lookup x=some a/\s'.heap.get? a=some o/\o.data=.cell v/\s.heap.objs.size<=a/\a≠env.locals
 lt:∀x a,env.cells.lookup x=some a->∃o,s'.heap.get? a=some o
 inj:∀x y a,env.cells.lookup x=some a->env.cells.lookup y=some a->x=y
 res:∀a p k,Gb a=some (.own p k)->(ρ.get p).isSome=true
theorem enter(I:Inv c G s env ρ)(L:Lend G Gb s.heap)(S:Jp c Gb s s' AN ρ'):Inv c (Gb.enter s.heap.objs.size AN) s' AN ρ':=by
 have lo:∀{a r},Gb a=some r->Gb.enter s.heap.objs.size AN a=some r:= λ{a r} e=>(Gh.enter_lt (L.low I e)).trans e
 have le:Gb.Le (Gb.enter s.heap.objs.size AN):= λa o e=>lo e
 have to:∀{x v v'},OR c Gb s.heap x v v'->OR c (Gb.enter s.heap.objs.size AN) s'.heap x v v':= λ{x v v'} z=>OR.to (x:=x) le (λa k e=>lo e) (λa k o _ e=>S.keep a o e) (λa k e=>lo e) z
 have dn:∀{a r},Gb.enter s.heap.objs.size AN a=some r->(a<s.heap.objs.size/\Gb a=some r)∨(a=AN.locals/\r=.frame)∨((∃x,AN.cells.lookup x=some a)/\r=.cell):= λ{a r} e=>by
  by_cases h:a<s.heap.objs.size
  ·rw[Gh.enter_lt h] at e;exact .inl ⟨h,e⟩
  ·exact .inr (Gh.enter_rl h e)
 have pZ:∀{a o},Gb.enter s.heap.objs.size AN a=some (.fro o)->Gb a=some (.fro o):= λe=>by
  rcases dn e with z|⟨_,z⟩|⟨_,z⟩
  ·exact z.2
  ·injection z
  ·injection z
 have Sq:∀{a p k},Gb.enter s.heap.objs.size AN a=some (.own p k)->Gb a=some (.own p k):= λe=>by
  rcases dn e with z|⟨_,z⟩|⟨_,z⟩
  ·exact z.2
  ·injection z
  ·injection z
 have fr:Gb.enter s.heap.objs.size AN AN.locals=some .frame:=by
  unfold Gh.enter;rw[if_neg (Nat.not_lt.mpr S.ge),if_pos rfl]
 have ce:∀{x a},AN.cells.lookup x=some a->s.heap.objs.size<=a->a≠AN.locals->Gb.enter s.heap.objs.size AN a=some .cell:= λ{x a} e h h'=>by
  unfold Gh.enter;rw[if_neg (Nat.not_lt.mpr h),if_neg h',if_pos ⟨x,e⟩]
 refine⟨⟨λa o e t=>S.keep a o (I.stat.keep a o e t),λa o e=>?_,λt m=>?_,?_,S.tok⟩,λa o e=>S.keep _ _ (L.at' I (pZ e)),λa r e=>?_,λa b p k e e'=>L.uniq _ _ _ _ (Sq e) (Sq e'),λa p k e=>S.res _ _ _ (Sq e),S.kf,S.gl,S.bi,fr,?_,λx v e=>?_,λx h k=>?_,S.inj⟩
 ·have h:=(I.liveBase e).elim λ_ e=>Heap.lt_size e
  rw[Gh.enter_lt h]
  exact(I.stat.old a o e).imp (L.nor a) λz=>⟨L.fro _ _ z.1,z.2⟩
 ·obtain⟨⟨ps,e1,e2⟩,z⟩:=I.stat.tab t m
  exact⟨⟨ps,S.keep _ _ e1,e2.imp λc' oc cvs q _=>le _ _ (L.fro _ _ q)⟩,z⟩
 ·rw[S.gens];exact I.stat.bare
 ·rcases dn e with z|⟨rfl,_⟩|⟨⟨x,z⟩,_⟩
  ·exact(L.live I z.2).imp λo e=>S.keep _ _ e
  ·refine Ak (S.ns) λm Bc _=>?_;obtain⟨o,_,_,e,_⟩:=Bc
   exact⟨o,e⟩
  ·exact S.lt x a z
 ·refine Ak (S.ns) λm hn z=>?_
  exact⟨m,hn,λx v e k=>(z x v e k).imp λv' q=>⟨q.1,to q.2⟩⟩
 ·refine(S.cel x v e).imp id λq=>⟨q.1,q.2.imp λa q=>q.imp λo q=>q.imp λv' z=>⟨z.1,z.2.1,z.2.2.1,to z.2.2.2.1,z.2.2.2.2.imp (λy=>⟨ce z.1 y.1 y.2.1,y.2.2⟩) (le _ _)⟩⟩
 ·refine Fo (S.room x h k) λa o v z1 z2 z3 z4 z5=>?_
  exact⟨a,o,v,z1,z2,z3,ce z1 z4 z5⟩
noncomputable def Gh.back(G Go:Gh):Gh:= λa=>match G a with
 |some r=>some r
 |none=>match Go a with
  |some (.fro o)=>some (.fro o)
  |_=>none
theorem Gh.back_some{r:AP}(e:G a=some r):G.back Go a=some r:=by unfold Gh.back;rw[e]
theorem Gh.back_rl{r:AP}(e:G.back Go a=some r):G a=some r∨(G a=none/\∃o,r=.fro o/\Go a=some (.fro o)):=by
 unfold Gh.back at e
 revert e
 generalize G a=o
 cases o with
 |some r'=>exact λe=>.inl e
 |none=>
  generalize Go a=o
  cases o with
  |none=>exact λe=>Az e
  |some r'=>
   cases r' with
   |fro o=>exact λe=>.inr ⟨rfl,o,(Option.some.inj e).symm,rfl⟩
   |_=>exact λe=>Az e
theorem Gh.back_fro(e:G a=none)(e':Go a=some (.fro o)):G.back Go a=some (.fro o):=by unfold Gh.back;rw[e,e']
structure Came (c:Cx) (W:Addr->Prop) (G Gb:Gh) (s so:Shared) (Go:Gh):Prop where
 hw:∀a,W a->G a=none
 le:Gb.Le Go
 new:∀a o,¬W a->s.heap.get? a=some o->Gb a=none->Go a=none
 own:∀a p k,Gb a=some (.own p k)->∃q j,Go a=some (.own q j)
 keep:∀a o,¬W a->s.heap.get? a=some o->Gb a=none->¬c.isTab a->so.heap.get? a=some o
 live:∀a o,¬W a->s.heap.get? a=some o->∃o',so.heap.get? a=some o'
 gens:∀(i:Nat) (x:GenState),s.gens[i]? =some x->so.gens[i]? =some x
 os:so.os=s.os
 stat:Qr c Go so
 fro:∀a o,Go a=some (.fro o)->so.heap.get? a=some o
 low:∀a r,Go a=some r->∃o,so.heap.get? a=some o
theorem Came.nw(K:Came c W G Gb s so Go){r:AP}(e:G a=some r):¬W a:= λw=>by rw[K.hw a w] at e;exact Az e
theorem Came.fro'(I:Inv c G s env ρ)(L:Lend G Gb s.heap)(K:Came c W G Gb s so Go)(e:Go a=some (.fro o))(h:∀o',Gb a=some (.fro o')->o'=o->G a=some (.fro o)):G.back Go a=some (.fro o):=by
 cases g:G a with
 |none=>exact Gh.back_fro g e
 |some r=>
  cases b:Gb a with
  |none=>
   obtain⟨o',h'⟩:=I.low a r g
   rw[K.new a o' (K.nw g) h' b] at e;cases e
  |some r'=>
   rcases L.rl a r' b with⟨o',rfl,_⟩|⟨p,k,_,_,rfl,_⟩
   ·have q:=K.le _ _ b
    rw[e] at q;(revert q;refine As λc0=>?_;injection c0 with c1;subst c1)
    exact Gh.back_some (h _ b rfl)
   ·refine EU (K.own _ _ _ b) λq j z=>?_
    rw[e] at z;(revert z;refine As λc0=>?_;injection c0)
theorem Rq(I:Inv c G s env ρ)(L:Lend G Gb s.heap)(K:Came c W G Gb s so Go)(hd:∀x,(ρ.get x).isSome=true->(ρ'.get x).isSome=true)(hs:ρ'.shut=ρ.shut)
 (hv:∀x u,ρ'.get x=some u->∃v,ρ.get x=some v/\∀v',OR c G s.heap x v v'->OR c (G.back Go) so.heap x u v'):
 (∀AH AC Ao,(∀a,W a->Ao.heap.get? a=none)->Nx c AH AC Ao ρ G s->Nx c AH AC Ao ρ' (G.back Go) so)/\Inv c (G.back Go) so env ρ':=by
 have nt:∀{a r},G a=some r->(∀o,r≠.fro o)->¬c.isTab a:= λ{a r} e h ⟨t,m,q⟩=>by
  rcases I.stat.old a _ (q▸(I.stat.tab t m).2) with z|z<;>rw[e] at z
  ·exact Ef z
  ·exact h _ (Option.some.inj z.1)
 have O2:∀{a r o},G a=some r->(∀x k,r≠.own x k)->s.heap.get? a=some o->so.heap.get? a=some o:= λ{a r o} e h e'=>by
  cases r with
  |own x k=>exact absurd rfl (h x k)
  |fro o'=>
   have q:=K.fro _ _ (K.le _ _ (L.fro _ _ e))
   rw[I.fro _ _ e] at e';(revert e';refine As λc0=>?_;subst c0);exact q
  |frame=>exact K.keep a o (K.nw e) e' (L.frame _ e) (nt e λ_ h=>AP.noConfusion h)
  |cell=>
   cases b:Gb a with
   |none=>exact K.keep a o (K.nw e) e' b (nt e λ_ h=>AP.noConfusion h)
   |some r=>
    rcases L.rl a r b with⟨o',rfl,z⟩|⟨p,k,x,j,rfl,z⟩
    ·have q:=K.fro _ _ (K.le _ _ b)
     rw[L.at' I b] at e';(revert e';refine As λc0=>?_;subst c0);exact q
    ·rw[e] at z;(revert z;refine As λc0=>?_;injection c0)
 have sN:∀{o:Obj} (x:Str) (k:Nat),AP.fro o≠.own x k:= λ_ _ h=>AP.noConfusion h
 have fro:∀{a o},G.back Go a=some (.fro o)->so.heap.get? a=some o:= λ{a o} e=>by
  rcases Gh.back_rl e with z|⟨_,o',q,z⟩
  ·exact K.fro _ _ (K.le _ _ (L.fro _ _ z))
  ·(injection q with c0;subst c0);exact K.fro _ _ z
 have own:∀{a x k},G.back Go a=some (.own x k)->G a=some (.own x k):= λ{a x k} e=>by
  rcases Gh.back_rl e with z|⟨_,o',q,z⟩
  ·exact z
  ·injection q
 refine⟨λAH AC Ao dead N=>⟨N.le.trans λa o e=>Gh.back_some e,λa o l e=>?_,λa x k e d=>N.own a x k (own e) d,λa o e n t=>K.keep a o (λq=>by rw[dead a q] at e;exact Az e) (N.keep a o e n t) (L.nor a (N.new a o e n)) t,λa o e=>(N.live a o e).elim λo' e'=>K.live a o' (λq=>by rw[dead a q] at e;exact Az e) e',λi x e=>K.gens i x (N.gens i x e),K.os.trans N.os,λx d=>hd x (N.dom x d)⟩,
  ⟨⟨K.stat.keep,λa o e=>?_,λt m=>?_,K.stat.bare,K.stat.tok⟩,λa o e=>fro e,λa r e=>?_,λa b x k e e'=>I.uniq _ _ _ _ (own e) (own e'),λa x k e=>hd _ (I.res _ _ _ (own e)),I.kf,I.gl,I.bi,Gh.back_some I.frame,?_,λx u e=>?_,λx q k=>?_,I.inj⟩⟩
 ·cases h:G.back Go a with
  |none=>rfl
  |some r=>
   rcases Gh.back_rl h with z|⟨_,o',_,z⟩
   ·rw[N.new a o l e] at z;exact Az z
   ·obtain⟨o₂,I7⟩:=N.live a o l
    rw[K.new a o₂ (λq=>by rw[dead a q] at l;exact Az l) I7 (L.nor a (N.new a o l e))] at z;exact Az z
 ·rcases I.stat.old a o e with z|z
  ·rcases K.stat.old a o e with y|y
   ·left;unfold Gh.back;rw[z,y]
   ·exact .inr ⟨Gh.back_fro z y.1,y.2⟩
  ·exact .inr ⟨Gh.back_some z.1,z.2⟩
 ·obtain⟨⟨ps,e1,e2⟩,z⟩:=K.stat.tab t m
  refine⟨⟨ps,e1,e2.imp λc' oc cvs q2 q3=>K.fro' I L q2 λo' b h=>?_⟩,z⟩
  subst h
  rcases L.rl _ _ b with⟨o,q,z⟩|⟨_,_,_,_,q,_⟩
  ·(injection q with c0;subst c0)
   rcases z with z|z
   ·exact z
   ·exact absurd q3 (z.2 _)
  ·injection q
 ·rcases Gh.back_rl e with z|⟨_,o',q,z⟩
  ·exact(I.low a r z).elim λo e=>K.live a o (K.nw z) e
  ·exact K.low _ _ z
 ·refine Ak (I.ns) λm hn z=>?_
  refine⟨m,hn.at' λo e=>O2 I.frame (λ_ _ h=>AP.noConfusion h) e,λx u e k=>?_⟩
  refine Ak (hv x u e) λv e' t=>?_
  exact(z x v e' k).imp λv' q=>⟨q.1,t _ q.2⟩
 ·refine Ak (hv x u e) λv e' t=>?_
  rw[show ρ'.shut=ρ.shut from hs]
  refine(I.cel x v e').imp id λq=>⟨q.1,q.2.imp λa q=>q.imp λo q=>q.imp λv' z=>⟨z.1,?_,z.2.2.1,t _ z.2.2.2.1,z.2.2.2.2.imp (λy=>⟨Gh.back_some y.1,y.2⟩) Gh.back_some⟩⟩
  rcases z.2.2.2.2 with y|y
  ·exact O2 y.1 (λ_ _ h=>AP.noConfusion h) z.2.1
  ·exact O2 y sN z.2.1
 ·rw[hs] at q
  exact(I.room x q k).imp λa w=>w.imp λo w=>w.imp λv z=>⟨z.1,O2 z.2.2.2 (λ_ _ h=>AP.noConfusion h) z.2.1,z.2.2.1,Gh.back_some z.2.2.2⟩
theorem Qk(I:Inv c G s env ρ)(L:Lend G Gb s.heap)(K:Came c W G Gb s so Go)(h:∀a k,G a=some (.own x k)->∀p j,Gb a≠some (.own p j))(z:OR c G s.heap x v v'):OR c (G.back Go) so.heap x v v':=
 OR.to (x:=x) (λa o e=>Gh.back_some e) (λa k e=>Gh.back_some e) (λa k o e e'=>by
  cases b:Gb a with
  |none=>
   refine K.keep a o (K.nw e) e' b λ⟨t,m,q⟩=>?_
   rcases I.stat.old a _ (q▸(I.stat.tab t m).2) with z|z<;>rw[e] at z
   ·exact Ef z
   ·cases z.1
  |some r=>
   rcases L.rl a r b with⟨o',rfl,_⟩|⟨p,j,_,_,rfl,_⟩
   ·have q:=K.fro _ _ (K.le _ _ b)
    rw[L.at' I b] at e';(revert e';refine As λc0=>?_;subst c0);exact q
   ·exact absurd b (h a k e p j)) (λa k e=>Gh.back_some e) z
theorem Q1(I:Inv c G s env ρ)(L:Lend G Gb s.heap)(K:Came c W G Gb s so Go)(h:∀a C vs n,Gb a=some (.fro {cls:=.type C,data:=.seq vs n})->G a=some (.fro {cls:=.type C,data:=.seq vs n})):Go.Seq (G.back Go):= λa C vs n e=>
 K.fro' I L e λo' b q=>by subst q;exact h _ _ _ _ b
inductive BR (P:Str->AV->Value->Prop):List (Str×AV)->List (Str×Value)->Prop
 |nil:BR P [] []
 |cons {x v v' l l':_}:P x v v'->BR P l l'->BR P ((x,v)::l) ((x,v')::l')
theorem BR.app{m:List (Str×AV)}(q:BR P l l')(h:BR P m m'):BR P (l++m) (l'++m'):=by
 induction q with
 |nil=>exact h
 |cons a _ ih=>exact .cons a ih
theorem BR.rev(q:BR P l l'):BR P l.reverse l'.reverse:=by
 induction q with
 |nil=>exact .nil
 |cons a _ ih=>rw[List.reverse_cons,List.reverse_cons];exact ih.app (.cons a .nil)
theorem BR.look(h:BR P l l'):l.lookup x=some v->∃v',l'.lookup x=some v'/\P x v v':=by
 induction h with
 |nil=>exact λe=>Az e
 |@cons y _ _ _ _ a _ ih=>
  intro e
  rw[List.lookup_cons] at e ⊢
  by_cases q:x=y
  ·subst q;simp only[beq_self_eq_true] at e ⊢;exact⟨_,rfl,Option.some.inj e▸a⟩
  ·rw[beq_false_of_ne q] at e ⊢;exact ih e
theorem BR.imp{P':Str->AV->Value->Prop}(h:∀x v v',P x v v'->P' x v v')(q:BR P l l'):BR P' l l':=by
 induction q with
 |nil=>exact .nil
 |cons a _ ih=>exact .cons (h _ _ _ a) ih
theorem BR.names(h:BR P l l'):∀q∈l',∃p∈l,p.1=q.1:=by
 induction h with
 |nil=>exact λ_ m=>nomatch m
 |cons _ _ ih=>
  intro q m
  rcases List.mem_cons.mp m with rfl|m
  ·exact⟨_,List.mem_cons_self,rfl⟩
  ·exact(ih q m).imp λp h=>⟨List.mem_cons_of_mem _ h.1,h.2⟩
theorem W8(l:List (Str×Value))(n:Str)(v:Value)(x:Str):(l++[(n,v)]).lookup x=(l.lookup x).or (if x=n then some v else none):=by
 induction l with
 |nil=>
  rw[List.nil_append,List.lookup_cons]
  by_cases q:x=n
  ·simp[q]
  ·simp[q,show(x==n)=false by simpa using q]
 |cons p r ih=>
  rw[List.cons_append,List.lookup_cons,List.lookup_cons,ih]
  cases x==p.1<;>rfl
set_option tactic.hygienic true in
theorem ZP(k:Str->Option NameKind):∀(l:List (Str×Value)) (m:Str->Option Value) (x:Str),bindL k l m x=if k x=some .local then(l.reverse.lookup x).or (m x) else m x:=by
 intro Al
 induction Al with
 |nil=>
  intro m x
  change m x=_;simp
 |cons zx r zih=>
  obtain⟨n,v⟩:=zx
  intro m x
  refine(zih _ x).trans ?_
  rw[List.reverse_cons,W8]
  by_cases h:k x=some .local
  ·rw[if_pos h,if_pos h,Option.or_assoc]
   by_cases q:x=n
   ·subst q;rw[if_pos h,if_pos rfl,if_pos rfl];rfl
   ·rw[if_neg q]
    split
    ·exact congrArg _ (if_neg q)
    ·rfl
  ·rw[if_neg h,if_neg h]
   split
   ·rename_i h'
    by_cases q:x=n
    ·subst q;exact absurd h' h
    ·exact if_neg q
   ·rfl
set_option tactic.hygienic true in
theorem kA(k:Str->Option NameKind):∀(l:List (Str×Value)) (m:Str->Option Value) (x:Str),bindC k l m x=if k x=some .local then m x else(l.reverse.lookup x).or (m x):=by
 intro Al
 induction Al with
 |nil=>
  intro m x
  change m x=_;simp
 |cons zx r zih=>
  obtain⟨n,v⟩:=zx
  intro m x
  refine(zih _ x).trans ?_
  rw[List.reverse_cons,W8]
  by_cases h:k x=some .local
  ·rw[if_pos h,if_pos h]
   split
   ·rfl
   ·rename_i h'
    by_cases q:x=n
    ·subst q;exact absurd h h'
    ·exact if_neg q
  ·rw[if_neg h,if_neg h,Option.or_assoc]
   by_cases q:x=n
   ·subst q;rw[if_neg h,if_pos rfl,if_pos rfl];rfl
   ·rw[if_neg q]
    split
    ·rfl
    ·exact congrArg _ (if_neg q)
set_option tactic.hygienic true in
theorem M7:∀{names:List (Str×NameKind)} {n:Nat} {acc:List (Str×Addr)} {x:Str},((x,.cell)∈names∨(acc.lookup x).isSome=true)->((cellsFrom n names acc).lookup x).isSome=true:=by
 intro Al
 induction Al with
 |nil=>
  intro _ _ _ h
  exact h.elim (λh=>nomatch h) id
 |cons zx r zih=>
  obtain⟨y,k⟩:=zx
  intro n acc x h
  unfold cellsFrom
  split
  ·refine zih ?_
   by_cases q:x=y
   ·right;rw[List.lookup_cons,q,beq_self_eq_true];rfl
   ·rcases h with h|h
    ·rcases List.mem_cons.mp h with e|h
     ·exact absurd (Prod.mk.inj e).1 q
     ·exact .inl h
    ·right;rw[List.lookup_cons,show(x==y)=false by simpa using q];exact h
  ·rename_i hk
   rcases h with h|h
   ·rcases List.mem_cons.mp h with e|h
    ·(revert e;refine FI λc0 c1=>?_;subst c0;subst c1);exact absurd rfl hk
    ·exact zih (.inl h)
   ·exact zih (.inr h)
theorem came(I:Inv c G s env ρ)(L:Lend G Gb s.heap)(S:Jp c Gb s s' AN ρ')(ho:s'.os=s.os)(N:Nx c ρ' (Gb.enter s.heap.objs.size AN) s' Cj Go so)(J:Inv c Go so AN Cj)
 (own:∀a p k,Gb a=some (.own p k)->∃q j,Go a=some (.own q j)):Came c (λ_=>False) G Gb s so Go:=
 ⟨λ_ h=>h.elim,λa o e=>N.le _ _ ((Gh.enter_lt (L.low I e)).trans e),λa o _ e n=>N.new a o (S.keep a o e) ((Gh.enter_lt (Heap.lt_size e)).trans n),own,
  λa o _ e n t=>N.keep a o (S.keep a o e) ((Gh.enter_lt (Heap.lt_size e)).trans n) t,λa o _ e=>N.live a o (S.keep a o e),λi x e=>N.gens i x (by rw[S.gens];exact e),N.os.trans ho,J.stat,J.fro,J.low⟩
theorem Vv{code:Value}{b:List (Str×AV)}{b':List (Str×Value)}(hk:scope.kind=.function)
 (hb:BR (OR c Gb s.heap) b b') (hn:∀q∈b,scope.names.lookup q.1=some .local∨scope.names.lookup q.1=some .cell)
 (e:AN=newEnv scope s.heap.objs.size mainGlobals (cellsFrom (s.heap.objs.size+1) scope.names []) qual func code none builtinsNs)
 (X:InCallC s AN.locals (bindL AN.kindOf b' λ_=>none) AN.cells (bindC AN.kindOf b' λ_=>none) s')
 (hr:∀a p k,Gb a=some (.own p k)->(b.reverse.lookup p).isSome=true) (hp:0<s'.toks):Jp c Gb s s' AN ⟨b.reverse,λ_=>false⟩:=by
 refine EU (X.toInCall.same) λh' tk hs=>?_
 have kind:∀x v,(R.mk b.reverse λ_=>false).get x=some v->AN.kindOf x=some .local∨AN.kindOf x=some .cell:= λx v e'=>by
  have m:=List.mem_reverse.mp (mem_of_lookup e')
  subst e;exact hn _ m
 have hc:AN.cells=cellsFrom (s.heap.objs.size+1) scope.names []:=by subst e;rfl
 have hl:AN.locals=s.heap.objs.size:=by subst e;rfl
 have cell:∀x,AN.kindOf x=some .cell->∃a o,AN.cells.lookup x=some a/\s'.heap.get? a=some o/\o.data=.cell (bindC AN.kindOf b' (λ_=>none) x)/\s.heap.objs.size<=a/\a≠AN.locals:= λx k=>by
  have h1:((cellsFrom (s.heap.objs.size+1) scope.names []).lookup x).isSome=true:=M7 (.inl (mem_of_lookup (by subst e;exact k)))
  obtain⟨a,ha⟩:=Option.isSome_iff_exists.mp h1
  rw[<-hc] at ha
  refine Ak (X.cell x a ha) λo e1 e2=>?_
  have:=X.above x a (mem_of_lookup ha)
  rw[hl] at this ⊢
  exact⟨a,o,ha,e1,e2,Nat.le_of_lt this,Nat.ne_of_gt this⟩
 refine⟨Nat.le_of_eq hl.symm,X.toInCall.keep,by rw[hs],hp,by subst e;exact hk,by subst e;rfl,by subst e;rfl,⟨_,X.toInCall.ns,λx v e' k=>?_⟩,λx v e'=>?_,λx _ k=>?_,λx a h=>(X.cell x a h).imp λ_ q=>q.1,λx y a h1 h2=>name_of_addr X.apart (mem_of_lookup h1) (mem_of_lookup h2),hr⟩
 ·refine Ak (hb.rev.look e') λv' e1 e2=>?_
  exact⟨v',by rw[ZP,if_pos k,e1];rfl,e2⟩
 ·refine(kind x v e').imp id λk=>⟨.inl k,?_⟩
  refine Ak (hb.rev.look e') λv' e1 e2=>?_
  refine M8 (cell x k) λa o z1 z2 z3 z4 z5=>?_
  refine⟨a,o,v',z1,z2,?_,e2,.inl ⟨z4,z5,rfl⟩⟩
  rw[z3,kA,if_neg (by rw[k];decide),e1];rfl
 ·refine M8 (cell x k) λa o z1 z2 z3 z4 z5=>?_
  exact⟨a,o,_,z1,z2,z3,z4,z5⟩
inductive A2 (P:AV->Value->Prop):List AV->List Value->Prop
 |nil:A2 P [] []
 |cons {v v' l l':_}:P v v'->A2 P l l'->A2 P (v::l) (v'::l')
theorem VRs.a2{P:AV->Value->Prop}(h:∀v v',VR G v v'->P v v')(q:VRs G xs vs):A2 P xs vs:=
 q.ind .nil λ_ _ _ _ a _ i=>.cons (h _ _ a) i
structure Ei (c:Cx) (d:BG) (a:Addr) (o:Obj) (fd:FuncData):Prop where
 at':c.base.get? a=some o
 nt:¬c.isTab a
 data:o.data=.func fd
 body:fd.body=.stmts d.body
 scope:fd.scope=d.sc
 glob:fd.globals=mainGlobals
 blt:fd.builtins=builtinsNs
 clos:fd.closure=[]
 code:∃cc oc vs t,fd.code=.ref cc/\c.base.get? cc=some oc/\¬c.isTab cc/\oc.data=.fields vs/\vs[1]? =some (.str fd.qualname t)
 co:d.sc.isCoroutine=false
 kind:d.sc.kind=.function
 host:∀f,DF d.sc=some f->fd.code=.ref (c.hc f)/\fd.qualname++".<locals>."=c.hq f
 names:∀pos kw b,D9 d.ps pos kw=some b->∀q∈b,d.sc.names.lookup q.1=some .local∨d.sc.names.lookup q.1=some .cell
 binds:∀(P:AV->Value->Prop) (s:Shared) v0 DL pos Ba kw Ci b,(∀a o,c.base.get? a=some o->¬c.isTab a->s.heap.get? a=some o)->D9 d.ps (v0::pos) kw=some b->A2 P pos Ba->BR (λ_=>P) kw Ci->P .none .none->(∀t,P (.int 0) (.int 0 t))->
  ∃p Hb Jw,b=(p,v0)::Hb/\d.ps.args.head?.map (·.arg)=some p/\BindsTo s fd ⟨DL::Ba,Ci⟩ ((p,DL)::Jw)/\BR (λ_=>P) Hb Jw
noncomputable def Gh.lend(G:Gh)(T:Addr->Option AP):Gh:= λa=>match G a with
 |some (.fro o)=>some (.fro o)
 |some _=>T a
 |none=>none
theorem Gh.lend_rl{r:AP}(e:G.lend T a=some r):(∃o,r=.fro o/\G a=some (.fro o))∨(T a=some r/\G a≠none/\∀o,G a≠some (.fro o)):=by
 unfold Gh.lend at e
 revert e
 generalize G a=o
 cases o with
 |none=>exact λe=>Az e
 |some r'=>
  cases r' with
  |fro o=>exact λe=>.inl ⟨o,(Option.some.inj e).symm,rfl⟩
  |_=>exact λe=>.inr ⟨e,(λh=>nomatch h),λ_ h=>(nomatch h)⟩
theorem Gh.lend_T{r:AP}(e:G a=some r)(h:∀o,r≠.fro o):G.lend T a=T a:=by
 unfold Gh.lend;rw[e]
 cases r with
 |fro o=>exact absurd rfl (h o)
 |_=>rfl
theorem Lend.of(t1:∀a r,T a=some r->(∃o,r=.fro o/\h.get? a=some o/\∀f,o.data≠.fields f)∨∃p k x j,r=.own p k/\G a=some (.own x j))(t2:∀a,G a=some .frame->T a=none)
 (t3:∀a b p k,T a=some (.own p k)->T b=some (.own p k)->a=b):Lend G (G.lend T) h where
 fro:= λa o e=>by unfold Gh.lend;rw[e]
 nor:= λa e=>by unfold Gh.lend;rw[e]
 rl:= λa r e=>by
  rcases Gh.lend_rl e with⟨o,rfl,z⟩|⟨z,_⟩
  ·exact .inl ⟨o,rfl,.inl z⟩
  ·exact(t1 a r z).imp (λ⟨o,q,z⟩=>⟨o,q,.inr z⟩) id
 frame:= λa e=>by rw[Gh.lend_T e λ_ h=>AP.noConfusion h];exact t2 a e
 uniq:= λa b p k e e'=>by
  rcases Gh.lend_rl e with⟨_,q,_⟩|⟨z,_⟩
  ·injection q
  ·rcases Gh.lend_rl e' with⟨_,q,_⟩|⟨z',_⟩
   ·injection q
   ·exact t3 a b p k z z'
structure Ij (c:Cx) (G Gb:Gh) (s so:Shared) (Go:Gh) (env:Env) (KI Cj:R):Prop where
 inv:Inv c Go so env Cj
 back:∀a p k,Go a=some (.own p k)->(KI.get p).isSome=true->Gb a=some (.own p k)
 came:(∀a p k,Gb a=some (.own p k)->∃q j,Go a=some (.own q j))->Came c (λ_=>False) G Gb s so Go
theorem WA(hr:Bd prog w c n r)(Mp:c.base.NoLimit/\¬c.isTab cStatics)(F:Ei c d a o fd)(hA:OkA A (n+1))(I:Inv c G s env ρ)(L:Lend G Gb s.heap)
 {b:List (Str×AV)} {b':List (Str×Value)} (Fx:BindsTo s fd ⟨Ba,Ci⟩ b') (hb:BR (OR c Gb s.heap) b b') (hn:∀q∈b,d.sc.names.lookup q.1=some .local∨d.sc.names.lookup q.1=some .cell)
 (Jq:∀a p k,Gb a=some (.own p k)->(b.reverse.lookup p).isSome=true) {v:AV} {Cj:R} (h:BZ r d b=some (v,Cj)) {Q:Value->Shared->Prop}
 (k:∀Go so AN v',Ij c G Gb s so Go AN ⟨b.reverse,λ_=>false⟩ Cj->VR Go v v'->Q v' so):codeAny (model prog w) A (.call (.ref a) ⟨Ba,Ci⟩) (λr s'=>match r with|.ok (.ret v)=>Q v s'|.ok _=>False|.error e=>E e s') s:=by
 revert h;refine Ai λ_ hg h=>?_
 revert h;refine Bv λf Aw hs h=>?_
 have Hc:d.sc.isGenerator=false:=by simpa using AI hg
 have hk:fd.scope.kind=.function:=F.scope▸F.kind
 refine MS (F.code) λcc oc cvs t e1 e2 e3 e4 e5=>?_
 refine id (codeAny_call_function (by have:=hA.2.1;rw[show recursionLimit=1000 from rfl];exact Ac 0x16c3e8330114a3843344154121101 Aa this) (I.stat.keep _ _ F.at' F.nt) F.data (F.scope▸F.co) (F.scope▸Hc) F.body ⟨cc,oc,cvs,t,e1,I.stat.keep _ _ e2 e3,e4,e5⟩ (Fx _ _ _ _ ?_))
 rw[F.clos]
 refine wpAny_with_toks I.stat.tok (wpAny_newFunctionEnv_cells hk (λx hx=>?_) λAN he s' X ht=>?_)
 ·refine Ak (hb.names x hx) λp hp q=>?_
  rw[F.scope,<-q]
  refine(hn p hp).imp id λz=>⟨z,M7 (.inl (mem_of_lookup z))⟩
 ·rw[F.scope,F.glob,F.blt] at he
  have S:=Vv F.kind hb hn he X Jq ht
  have J:=enter I L S
  refine EU (X.toInCall.same) λh' tk ET=>?_
  refine⟨?_,codeAny_func ?_⟩
  ·obtain⟨⟨mc,CZ,hm⟩,hc⟩:=Mp
   exact⟨mc,CZ.at' λo e=>S.keep _ _ (I.stat.keep _ _ e hc),hm⟩
  ·refine hr.ss _ _ _ _ _ hs _ AN _ s' _ _ ⟨hA.1,?_,?_⟩ ⟨by rw[he];rfl,λf hf=>by rw[he];exact F.host f hf⟩ J λGo so f' N Jo Fl=>?_
   ·have:=hA.2.1;show A.depth+1+4*n<=900;exact Ac 0x14c384334415114120114a3843344154121101 Aa this
   ·have:=hA.2.2;show A.units+3+60*n<=9000;exact Ac 0x14c23284343c25114320114a23284343c254121101 Aa this
   ·have D:Ij c G Gb s so Go AN ⟨b.reverse,λ_=>false⟩ Aw:=⟨Jo,λa p k e d=>?_,came I L S (by rw[ET]) N Jo⟩
    ·cases f with
     |ret u=>
      (revert h;refine AO λc1 c2=>?_;subst c1;subst c2)
      cases f' with
      |ret u'=>exact k _ _ _ _ D Fl
      |_=>exact Fl.elim
     |next=>
      (revert h;refine AO λc1 c2=>?_;subst c1;subst c2)
      cases f' with
      |next=>exact k _ _ _ _ D .none
      |_=>exact Fl.elim
     |cont=>exact Az h
    ·have q:=N.own a p k e d
     by_cases D4:a<s.heap.objs.size
     ·exact(Gh.enter_lt D4).symm.trans q
     ·rcases Gh.enter_rl D4 q with⟨_,z⟩|⟨_,z⟩<;>injection z
theorem jP(hr:Bd prog w c n r)(Mp:c.base.NoLimit/\¬c.isTab cStatics)(F:Ei c d a o fd)(hA:OkA A (n+1))(I:Inv c G s env ρ)(L:Lend G Gb s.heap)
 {b:List (Str×AV)} {b':List (Str×Value)} (Fx:BindsTo s fd ⟨Ba,Ci⟩ b') (hb:BR (OR c Gb s.heap) b b') (hn:∀q∈b,d.sc.names.lookup q.1=some .local∨d.sc.names.lookup q.1=some .cell)
 (Jq:∀a p k,Gb a=some (.own p k)->(b.reverse.lookup p).isSome=true) {v:AV} {Cj:R} (h:BZ r d b=some (v,Cj)) {Q:Value->Shared->Prop}
 (k:∀Go so AN v',Ij c G Gb s so Go AN ⟨b.reverse,λ_=>false⟩ Cj->VR Go v v'->Q v' so):wpAny (model prog w) A (call (.ref a) Ba Ci) Q E s:=wpAny_call (WA hr Mp F hA I L Fx hb hn Jq h k)
structure Bx (c:Cx) (top:List Stmt):Prop where
 lim:c.base.NoLimit
 tabs:∀t∈c.tabs,∀t'∈c.tabs,t.2.1=t'.2.1->t=t'
 nst:¬c.isTab cStatics
 glob:c.base.Ns mainGlobals c.mg
 ngl:¬c.isTab mainGlobals
 blt:c.base.Ns builtinsNs c.mb
 nbl:¬c.isTab builtinsNs
 bm:∃bm o,c.mg "__builtins__"=some (.ref bm)/\bm≠builtinsNs/\bm≠mainGlobals/\¬c.isTab bm/\c.base.get? bm=some o/\o.cls=.type "module"/\o.dict=some builtinsNs/\o.data=.plain
 fn:∀f d,B4 top f=some d->d.sc.isGenerator=false->∃a o fd,c.mg f=some (.ref a)/\Ei c d a o fd
 gen:∀d,B4 top "_iter_escaped_chars"=some d->∃a o fd,c.mg "_iter_escaped_chars"=some (.ref a)/\Ei c d a o fd
 host:∀sc f,DF sc=some f->∃P,CodeHd c.base (c.hc f) P/\(c.hc f,P,c.hq f++"<lambda>")∈c.tabs
 len:c.mg "len"=none/\c.mb "len"=some (.builtin "len")
 sum:c.mg "sum"=none/\c.mb "sum"=some (.builtin "sum")
 min:c.mg "min"=none/\c.mb "min"=some (.builtin "min")
 iter:c.mg "iter"=none/\c.mb "iter"=some (.builtin "iter")
 range:c.mg "range"=none/\c.mb "range"=some (.type "range")
 enumerate:c.mg "enumerate"=none/\c.mb "enumerate"=some (.type "enumerate")
theorem PT(f:Str->Bool)(x:Str):∀l:List (Str×AV),(l.filter λp=>f p.1).lookup x=if f x=true then l.lookup x else none:=by
 intro Al
 induction Al with
 |nil=>
  simp
 |cons zx r zih=>
  obtain⟨y,v⟩:=zx
  by_cases h:f y=true
  ·rw[List.filter_cons_of_pos (by exact h),List.lookup_cons,List.lookup_cons,zih]
   by_cases q:x=y
   ·subst q;simp[h]
   ·rw[show(x==y)=false by simpa using q]
  ·rw[List.filter_cons_of_neg (by exact h),zih]
   by_cases q:x=y
   ·subst q;rw[if_neg h,if_neg h]
   ·rw[List.lookup_cons,show(x==y)=false by simpa using q]
set_option tactic.hygienic true in
theorem Un(h:(CT scope ρ).lookup x=some v):Ay scope x=true/\ρ.get x=some v:=by
 rw[show(CT scope ρ).lookup x=_ from PT (Ay scope) x ρ.vars] at h
 split at h
 ·exact⟨‹_›,h⟩
 ·exact Az h
noncomputable def CO(env:Env):List (Str×NameKind)->List (Str×Addr)->List (Str×Addr)
 |[],acc=>acc
 |(x,k)::r,acc=>if k==.free then CO env r ((x,(env.cells.lookup x).getD 0)::acc) else CO env r acc
theorem oP(h:∀x,(x,NameKind.free)∈scope.names->(env.cells.lookup x).isSome=true):closureFor scope env=pure (CO env scope.names []):=by
 unfold closureFor
 suffices ∀(l:List (Str×NameKind)) (acc:List (Str×Addr)),(∀x,(x,NameKind.free)∈l->(env.cells.lookup x).isSome=true)->
  (forIn l acc λ(p:Str×NameKind) (cs:List (Str×Addr))=>if p.2==.free then(do let a <-cellOf env p.1;pure (ForInStep.yield ((p.1,a)::cs))) else pure (ForInStep.yield cs):Sem _)=pure (CO env l acc) by
  exact(congrArg (· >>= pure) (this scope.names [] h)).trans (pure_bind _ _)
 intro l
 induction l with
 |nil=>intro acc _;rfl
 |cons p r ih=>
  intro acc h
  obtain⟨x,k⟩:=p
  rw[List.forIn_cons]
  unfold CO
  by_cases q:(k==NameKind.free)=true
  ·have e:k=.free:=by simpa using q
   subst e
   obtain⟨a,ha⟩:=Option.isSome_iff_exists.mp (h x List.mem_cons_self)
   have hc:cellOf env x=pure a:=by unfold cellOf;rw[ha]
   simp only[beq_self_eq_true,if_true,hc,pure_bind,ha,Option.getD_some]
   exact ih _ λy m=>h y (List.mem_cons_of_mem _ m)
  ·simp only[q,if_false,Bool.false_eq_true,pure_bind]
   exact ih _ λy m=>h y (List.mem_cons_of_mem _ m)
set_option tactic.hygienic true in
theorem LC:∀{l:List (Str×NameKind)} {acc:List (Str×Addr)},(CO env l acc).lookup x=some a->acc.lookup x=some a∨((x,NameKind.free)∈l/\a=(env.cells.lookup x).getD 0):=by
 intro Al
 induction Al with
 |nil=>
  intro _ e
  exact .inl e
 |cons zx r zih=>
  obtain⟨y,k⟩:=zx
  intro acc e
  unfold CO at e
  split at e
  ·rename_i hk
   have hk:k=.free:=by simpa using hk
   subst hk
   rcases zih e with e|⟨m,e⟩
   ·rw[List.lookup_cons] at e
    by_cases q:x=y
    ·subst q;rw[beq_self_eq_true] at e;(revert e;refine As λc0=>?_;subst c0);exact .inr ⟨List.mem_cons_self,rfl⟩
    ·rw[show(x==y)=false by simpa using q] at e;exact .inl e
   ·exact .inr ⟨List.mem_cons_of_mem _ m,e⟩
  ·rcases zih e with e|⟨m,e⟩
   ·exact .inl e
   ·exact .inr ⟨List.mem_cons_of_mem _ m,e⟩
set_option tactic.hygienic true in
theorem Ub:∀{l:List (Str×NameKind)} {acc:List (Str×Addr)},((x,NameKind.free)∈l∨(acc.lookup x).isSome=true)->((CO env l acc).lookup x).isSome=true:=by
 intro Al
 induction Al with
 |nil=>
  intro _ h
  exact h.elim (λh=>nomatch h) id
 |cons zx r zih=>
  obtain⟨y,k⟩:=zx
  intro acc h
  unfold CO
  split
  ·refine zih ?_
   rw[List.lookup_cons]
   by_cases q:x=y
   ·subst q;right;rw[beq_self_eq_true];rfl
   ·rw[show(x==y)=false by simpa using q]
    exact h.imp (λm=>(List.mem_cons.mp m).resolve_left λe=>q (Prod.mk.inj e).1) id
  ·rename_i hk
   exact zih (h.imp (λm=>(List.mem_cons.mp m).resolve_left λe=>by(revert e;refine FI λc0 c1=>?_;subst c0;subst c1);exact hk rfl) id)
theorem Hn(I:Inv c G s env ρ)(Ag:env.scope=sc)(h:seen sc scope ρ=true)(m:(x,NameKind.free)∈scope.names):
 ∃v,ρ.get x=some v/\WS c G s.heap env ρ.shut x v:=by
 have h:=List.all_eq_true.mp h _ m
 obtain⟨h1,h2⟩:=Bool.and_eq_true_iff.mp h
 obtain⟨v,hv⟩:=Option.isSome_iff_exists.mp h1
 refine⟨v,hv,(I.cel x v hv).resolve_left λk=>?_⟩
 subst Ag
 rw[show env.scope.names.lookup x=some .local from k] at h2
 exact Ck h2
theorem QT(I:Inv c G s env ρ)(Ag:env.scope=sc)(h:seen sc scope ρ=true):closureFor scope env=pure (CO env scope.names []):=
 oP λx m=>by refine Wv (Hn I Ag h m) λv _ _ a o v' e _=>?_;rw[e];rfl
theorem Kg(I:Inv c G s env ρ)(Ag:env.scope=sc)(h:seen sc scope ρ=true)(e:(CO env scope.names []).lookup x=some a):env.cells.lookup x=some a:=by
 rcases LC e with e|⟨m,rfl⟩
 ·exact Az e
 ·refine Wv (Hn I Ag h m) λv _ _ a o v' e _=>?_
  rw[e];rfl
set_option tactic.hygienic true in
theorem Zo(I:Inv c G s env ρ):∃G',Nx c ρ G s ⟨ρ.vars,λ_=>true⟩ G' s/\Inv c G' s env ⟨ρ.vars,λ_=>true⟩/\∀a o,G a=some .cell->s.heap.get? a=some o->G' a=some (.fro o):=by
 let G':Gh:= λa=>match G a with
  |some .cell=>(s.heap.get? a).map AP.fro
  |r=>r
 have up:∀{a r},G a=some r->r≠.cell->G' a=some r:= λ{a r} e h=>by
  show(match G a with|some .cell=>(s.heap.get? a).map AP.fro|r=>r)=some r
  rw[e]
  cases r with
  |cell=>exact absurd rfl h
  |_=>rfl
 have dn:∀{a r},G' a=some r->(G a=some r/\r≠.cell)∨(G a=some .cell/\∃o,r=.fro o/\s.heap.get? a=some o):= λ{a r} e=>by
  have e:(match G a with|some .cell=>(s.heap.get? a).map AP.fro|r=>r)=some r:=e
  split at e
  ·rename_i h
   refine Ak (Fg e) λo ho Ar=>?_;obtain rfl:=Ar
   exact .inr ⟨h,o,rfl,ho⟩
  ·rename_i h
   refine .inl ⟨e,λq=>?_⟩
   subst q;exact h e
 have le:G.Le G':= λa o e=>up e λh=>AP.noConfusion h
 have own:∀{a x k},G' a=some (.own x k)->G a=some (.own x k):= λe=>by
  rcases dn e with z|⟨_,_,q,_⟩
  ·exact z.1
  ·injection q
 have XW:∀{a x k},G a=some (.own x k)->G' a=some (.own x k):= λe=>up e λh=>AP.noConfusion h
 have to:∀{x v v'},OR c G s.heap x v v'->OR c G' s.heap x v v':= λ{x v v'} z=>z.to le (λ_ _ e=>XW e) (λ_ _ _ _ e=>e) (λ_ _ e=>XW e)
 have cl:∀a o,G a=some .cell->s.heap.get? a=some o->G' a=some (.fro o):= λa o e e'=>by
  show(match G a with|some .cell=>(s.heap.get? a).map AP.fro|r=>r)=_
  rw[e,e'];rfl
 refine⟨G',⟨le,λa _ _ e=>?_,λa x k e _=>own e,λ_ _ e _ _=>e,λ_ o e=>⟨o,e⟩,λ_ _ e=>e,rfl,λ_ h=>h⟩,
  ⟨⟨I.stat.keep,λa o e=>?_,λt m=>⟨(I.stat.tab t m).1.imp λps q=>⟨q.1,q.2.imp λc' oc cvs q _=>le _ _ q⟩,(I.stat.tab t m).2⟩,I.stat.bare,I.stat.tok⟩,λa o e=>?_,λa r e=>?_,
   λa b x k e e'=>I.uniq _ _ _ _ (own e) (own e'),λa x k e=>I.res _ _ _ (own e),I.kf,I.gl,I.bi,up I.frame λh=>AP.noConfusion h,
   I.ns.imp λm q=>⟨q.1,λx v e k=>(q.2 x v e k).imp λv' z=>⟨z.1,to z.2⟩⟩,λx v e=>?_,λx h=>(nomatch h),I.inj⟩,cl⟩
 ·cases h:G' a with
  |none=>rfl
  |some r=>rcases dn h with z|z<;>rw[e] at z<;>(have ce:=z.1;exact Az ce)
 ·rcases I.stat.old a o e with z|z
  ·left
   cases h:G' a with
   |none=>rfl
   |some r=>rcases dn h with y|y<;>rw[z] at y<;>(have ce:=y.1;exact Az ce)
  ·exact .inr ⟨le _ _ z.1,z.2⟩
 ·rcases dn e with z|⟨_,o',q,z⟩
  ·exact I.fro _ _ z.1
  ·(injection q with c0;subst c0);exact z
 ·rcases dn e with z|⟨z,_⟩
  ·exact I.low _ _ z.1
  ·exact I.low _ _ z
 ·refine(I.cel x v e).imp id λq=>⟨q.1,q.2.imp λa q=>q.imp λo q=>q.imp λv' z=>⟨z.1,z.2.1,z.2.2.1,to z.2.2.2.1,.inr ?_⟩⟩
  rcases z.2.2.2.2 with y|y
  ·exact cl _ _ y.1 z.2.1
  ·exact le _ _ y
theorem lW{p:Arguments×PySem.Expr×Scope}(h:NG e=some p):∃q,e=.Lambda p.1 p.2.1 p.2.2 q:=by
 exact(FD h:)
theorem CodeHd.noTab(T:Bx c top)(I:Inv c G s env ρ){P:Addr}(h:CodeHd c.base cc P):¬c.isTab cc:= λ⟨t,m,q⟩=>by
 revert h;refine g9 λo vs _ _ _ _ _ _ _ e1 e2 _=>?_
 have z:=(I.stat.tab t m).2
 rw[q,e1] at z
 (revert z;refine As λc0=>?_;subst c0);injection e2
structure eV (G:Gh) (ps:Arguments) (body:PySem.Expr) (scope:Scope) (env:Env) (f:Addr) (o:Obj) (fd:FuncData) (c:Addr) (oc:Obj) (cvs:Array Value) (t:Tok):Prop where
 gf:G f=some (.fro o)
 data:o.data=.func fd
 cls:o.cls=.type "function"
 params:fd.params=ps
 bod:fd.body=.expr body
 scp:fd.scope=scope
 glob:fd.globals=mainGlobals
 blt:fd.builtins=builtinsNs
 code:fd.code=.ref c
 gc:G c=some (.fro oc)
 cdata:oc.data=.fields cvs
 cname:cvs[1]? =some (.str fd.qualname t)
 clos:fd.closure=CO env scope.names []
 dflt:fd.defaults=.none
theorem Vs(T:Bx c top)(Ag:Cu c sc env)(I:Inv c G s env ρ)(N:Nx c AH AC Ao ρ G s){f:Str}(hh:DF sc=some f)(h1:ps.defaults=[])(h2:ps.kw_defaults=[])
 (hs:seen sc scope ρ=true) {Q:Value->Shared->Prop}
 (k:∀G' s' f o fd c' oc cvs t,Nx c AH AC Ao ⟨ρ.vars,λ_=>true⟩ G' s'->Inv c G' s' env ⟨ρ.vars,λ_=>true⟩->G.Le G'->eV G' ps body scope env f o fd c' oc cvs t->
  (∀x,(x,NameKind.free)∈scope.names->∃a o v v',fd.closure.lookup x=some a/\env.cells.lookup x=some a/\ρ.get x=some v/\G' a=some (.fro o)/\o.data=.cell (some v')/\OR c G s.heap x v v')->Q (.ref f) s'):
 wpAny M A (eval (.Lambda ps body scope pos) env) Q E s:=by
 refine Ak (T.host sc f hh) λP hC ht=>?_
 obtain⟨hcode,hqual⟩:=Ag.2 f hh
 refine pJ (T.bm) λbm ob b1 b2 b3 b4 b5 b6 b7 b8=>?_
 have hP:c.isTab P:=⟨_,ht,rfl⟩
 have pM:=CodeHd.noTab T I hC
 have XX:CodeHd s.heap (c.hc f) P:=by
  revert hC;refine oS λo vs Pa tf OS tg OH text tt e r=>?_
  exact⟨o,vs,Pa,tf,OS,tg,OH,text,tt,I.stat.keep _ _ e pM,r⟩
 have hg:s.heap.Ns mainGlobals c.mg:=T.glob.at' λo e=>I.stat.keep _ _ e T.ngl
 have hb:s.heap.BuiltinsAt c.mg P:=⟨bm,ob,b1,b2,b3,λq=>b4 (q▸hP),I.stat.keep _ _ b5 b4,b6,b7,b8⟩
 obtain⟨⟨tps,t1,t2⟩,tb⟩:=I.stat.tab _ ht
 rw[<-hqual] at t2
 have hd:defaultsOf ps env=([],[]):=by
  obtain⟨p1,p2,p3,p4,p5,p6,p7⟩:=ps
  obtain rfl:p7=[]:=h1
  obtain rfl:p5=[]:=h2
  rfl
 refine Cf (Zo I) λAv Au An Mu=>?_
 have CY:∀{AY:Gh} {A4:Shared} {c':Addr} {oc:Obj} {cvs:Array Value} {t:Tok} (Jt:Value) (tk:Nat),0<tk->Nx c AH AC Ao ⟨ρ.vars,λ_=>true⟩ AY A4->Inv c AY A4 env ⟨ρ.vars,λ_=>true⟩->Av.Le AY->AY c'=some (.fro oc)->oc.data=.fields cvs->cvs[1]? =some (.str (env.qual++"<lambda>") t)->
  Q (.ref A4.heap.objs.size) {A4 with heap:=A4.heap.push (kla_obj "<lambda>" (env.qual++"<lambda>") ps body scope (CO env scope.names []) ((c.mg "__name__").getD .none) c' Jt),toks:=tk}:= λ{AY A4 c' oc cvs t} Jt tk C1 A8 Ax L g1 g2 g3=>by
  obtain⟨AM,Bf⟩:=Li Ax (o:=kla_obj "<lambda>" (env.qual++"<lambda>") ps body scope (CO env scope.names []) ((c.mg "__name__").getD .none) c' Jt) rfl
  refine k _ _ _ _ _ c' oc cvs t (A8.trans (AM.trans (.toks tk))) (Bf.toks tk C1) ((Au.le.trans L).trans AM.le) ⟨Gh.put_self ..,rfl,rfl,rfl,rfl,rfl,rfl,rfl,rfl,AM.le _ _ g1,g2,g3,rfl,rfl⟩ λx m=>?_
  refine Ud (Hn I Ag.1 hs m) λCo Hg _ a o v' e1 e2 e3 e4 e5=>?_
  obtain⟨a',ha'⟩:=Option.isSome_iff_exists.mp (Ub (env:=env) (x:=x) (acc:=[]) (.inl m))
  have q:=Kg I Ag.1 hs ha'
  rw[e1] at q;(revert q;refine As λc0=>?_;subst c0)
  have g:Av a=some (.fro o):=e5.elim (λz=>Mu _ _ z.1 e2) (Au.le _ _)
  exact⟨a,o,Co,v',ha',e1,Hg,AM.le _ _ (L _ _ g),e3,e4⟩
 refine kla_eval hd ?_
 cases hq:codeAmong pos tps.toList with
 |some cv=>
  refine SV (t2.among hq) λc' oc cvs t Fy g1 g2 g3=>?_;obtain rfl:=Fy
  refine wpAny_with_toks I.stat.tok (kla_makeFunctionHit (QT I Ag.1 hs) I.gl hg hcode XX t1 t2.ok hq hb λJt h' tk hk hz C1=>?_)
  have Ax:Inv c Av {s with heap:=h'} env ⟨ρ.vars,λ_=>true⟩:=An.grown hk I.stat.bare I.stat.tok
  have A8:Nx c AH AC Ao ⟨ρ.vars,λ_=>true⟩ Av {s with heap:=h'}:=(N.trans Au).trans (.grown hk (λ_ _ e=>e) rfl)
  exact CY Jt tk C1 A8 Ax (.refl _) (Au.le _ _ g1) g2 g3
 |none=>
  refine wpAny_with_toks I.stat.tok (kla_makeFunction (QT I Ag.1 hs) I.gl hg hcode XX t1 t2.ok hq (λq=>T.ngl (q▸hP)) hb λc' Jt h' tk hx R1 D4 pR Yj C1=>?_)
  revert pR;refine oW λvP oc cvs t e2 qH hd hv=>?_
  (injection e2 with c0;subst c0)
  have hk:∀a o,s.heap.get? a=some o->¬c.isTab a->h'.get? a=some o:= λa o e t=>hx a o (λq=>t (q▸hP)) e
  have Sc:s.heap.get? c'=none:=Heap.get?_none_of_le R1
  have g:Av c'=none:=An.fresh Sc
  have b:c.base.get? c'=none:=I.baseNone Sc
  rw[<-hqual] at ht
  have Ax:Inv c (Av.put c' (.fro oc)) {s with heap:=h'} env ⟨ρ.vars,λ_=>true⟩:=by
   refine An.more (Gh.put_up g) (λa r e=>(Gh.put_dn a r e).elim (λ⟨q,q2⟩=>.inr ⟨oc,q2,q▸qH,q▸b⟩) .inl) hk I.stat.bare I.stat.tok λt m=>?_
   by_cases e:t.2.1=P
   ·obtain rfl:=T.tabs t m _ ht e
    refine⟨_,Yj,?_⟩
    rw[Array.toList_append]
    exact(t2.imp λ_ _ _ z _=>Gh.le_put g _ _ (Au.le _ _ z)).snoc (Gh.put_self ..) hd hv
   ·obtain⟨⟨ps',e1,e2⟩,_⟩:=An.stat.tab t m
    exact⟨ps',hx _ _ e e1,e2.imp λ_ _ _ z _=>Gh.le_put g _ _ z⟩
  have A8:Nx c AH AC Ao ⟨ρ.vars,λ_=>true⟩ (Av.put c' (.fro oc)) {s with heap:=h'}:=by
   have AM:=N.trans Au
   have lv:∀a o,s.heap.get? a=some o->∃o',h'.get? a=some o':= λa o e=>by
    by_cases q:a=P
    ·subst q;exact⟨_,Yj⟩
    ·exact⟨o,hx a o q e⟩
   have Ec:Nx c AH AC Ao ⟨ρ.vars,λ_=>true⟩ Av {s with heap:=h'}:=⟨AM.le,AM.new,AM.own,λa o e n t=>hk a o (AM.keep a o e n t) t,λa o e=>(AM.live a o e).elim λo' e'=>lv a o' e',AM.gens,AM.os,AM.dom⟩
   exact Ec.put (AM.dead Sc) g
  exact CY Jt tk C1 A8 Ax (Gh.le_put g) (Gh.put_self ..) hd hv
set_option tactic.hygienic true in
theorem cV(T:Bx c top)(Ag:Cu c sc env)(I:Inv c G s env ρ)(N:Nx c AH AC Ao ρ G s){f:Str}(hh:DF sc=some f)(h1:ps.defaults=[])(h2:ps.kw_defaults=[])
 (hs:seen sc scope ρ=true) (hf:∀p∈CT scope ρ,p.2.free=true) {Q:Value->Shared->Prop}
 (k:∀G' s' v',Nx c AH AC Ao ⟨ρ.vars,λ_=>true⟩ G' s'->Inv c G' s' env ⟨ρ.vars,λ_=>true⟩->G.Le G'->CL G' scope ps body (CT scope ρ) v'->Q v' s'):
 wpAny M A (eval (.Lambda ps body scope pos) env) Q E s:=by
 refine Vs T Ag I N hh h1 h2 hs λG' s' f o fd c' oc cvs t N' I' L O H=>?_
 refine k _ _ _ N' I' L ⟨f,o,fd,c',oc,cvs,t,rfl,⟨O.gf,O.data,O.params,O.bod,O.scp,O.glob,O.blt,O.code,O.gc,O.cdata,O.cname,λx y a h h'=>?_,λx v h=>?_,O.dflt,λx a h=>?_⟩⟩
 ·rw[O.clos] at h h'
  exact I.inj x y a (Kg I Ag.1 hs h) (Kg I Ag.1 hs h')
 ·obtain⟨h1,h2⟩:=Un h
  have m:(x,NameKind.free)∈scope.names:=mem_of_lookup (Ib h1)
  refine Ro (H x m) λa o Co v' e1 _ e2 e3 e4 e5=>?_
  rw[h2] at e2;(revert e2;refine As λc0=>?_;subst c0)
  exact⟨a,o,v',e1,e3,e4,(OR.free (hf _ (mem_of_lookup h)) e5).mono L⟩
 ·have h':=h
  rw[O.clos] at h'
  rcases LC h' with h'|⟨m,e⟩
  ·exact Az h'
  ·refine Ro (H x m) λa' o Co v' e1 _ e2 e3 e4 e5=>?_
   rw[h] at e1;(revert e1;refine As λc0=>?_;subst c0)
   exact⟨o,e3⟩
noncomputable def AR(G:Gh)(v:AV)(v':Value):Prop:=VR G v v'∨∃sc ps body k,v=.clo sc ps body k/\CL G sc ps body k v'
theorem AR.mono(h:G.Le G')(z:AR G v v'):AR G' v v':=z.imp (·.mono h) λq=>q.imp λ_ q=>q.imp λ_ q=>q.imp λ_ q=>q.imp λ_ q=>⟨q.1,q.2.mono h⟩
theorem VR.or(z:VR G v v'):OR c G h x v v':=by
 cases v with
 |ol|lex|cit|clo=>cases z
 |_=>exact z
theorem AR.or(z:AR G v v'):OR c G h x v v':=by
 rcases z with z|⟨_,_,_,_,rfl,z⟩
 ·exact z.or
 ·exact z
set_option tactic.hygienic true in
theorem pH(T:Bx c top)(hr:Bd prog w c n r)(hA:OkA A n)(Ag:Cu c sc env)(h:Qt r sc e ρ=some (v,ρ'))(I:Inv c G s env ρ)(N:Nx c AH AC Ao ρ G s)
 (k:∀G' s' v',Nx c AH AC Ao ρ' G' s'->Inv c G' s' env ρ'->G.Le G'->AR G' v v'->Q v' s'):wpAny (model prog w) A (eval e env) Q E s:=by
 unfold Qt at h
 split at h
 ·rename_i ps body scope hl
  obtain⟨q,rfl⟩:=lW hl
  revert h;refine Ai λ_ hg h=>?_
  (revert h;refine AO λc1 c2=>?_;subst c1;subst c2)
  obtain⟨hg,g5⟩:=Bool.and_eq_true_iff.mp (AI hg)
  obtain⟨hg,g4⟩:=Bool.and_eq_true_iff.mp hg
  obtain⟨hg,g3⟩:=Bool.and_eq_true_iff.mp hg
  obtain⟨g1,g2⟩:=Bool.and_eq_true_iff.mp hg
  obtain⟨f,hf⟩:=Option.isSome_iff_exists.mp g2
  exact cV T Ag I N hf (List.isEmpty_iff.mp g4) (List.isEmpty_iff.mp g5) g3 (List.all_eq_true.mp g1) λG' s' v' N' I' L z=>k _ _ _ N' I' L (.inr ⟨_,_,_,_,rfl,z⟩)
 ·split at h
  ·rename_i hc
   (revert h;refine AO λc1 c2=>?_;subst c1;subst c2)
   refine Dc (UE hc) λx pos Ar hx=>?_;obtain rfl:=Ar
   exact CF I hx λv' z=>k _ _ _ N I (.refl _) (.inr ⟨_,_,_,_,rfl,z⟩)
  ·revert h;refine Ai λ_ _ h=>?_
   exact(hr.e _ _ _ _ _ h).then hA Ag I N λG' s' v' N' I' L z=>k _ _ _ N' I' L (.inl z)
theorem NO(T:Bx c top)(hr:Bd prog w c n r)(hA:OkA A n)(Ag:Cu c sc env)(h:GU r sc AT ρ=some (ks,ρ'))(I:Inv c G s env ρ)(N:Nx c AH AC Ao ρ G s){Q:List Value->Shared->Prop}
 (k:∀G' s' vs,Nx c AH AC Ao ρ' G' s'->Inv c G' s' env ρ'->G.Le G'->BR (λ_=>AR G') ks (((backToKw pos (keywordEach AT env)).filterMap (·.1)).zip vs)->Q vs s'):
 ((backToKw pos (keywordEach AT env)).all (·.1.isSome)=true)/\wpAny (model prog w) A (PySem.evalAll ((backToKw pos (keywordEach AT env)).map (·.2))) Q E s:=by
 cases AT with
 |nil=>(revert h;refine AO λc1 c2=>?_;subst c1;subst c2);exact⟨rfl,wpAny_evalAll_nil (k _ _ _ N I (.refl _) .nil)⟩
 |cons q r'=>
  revert h;refine Ai λ_ hg h=>?_
  revert h;refine Ai λy hy h=>?_
  revert h;refine Bv λv Aw hv h=>?_
  (revert h;refine AO λc1 c2=>?_;subst c1;subst c2)
  obtain rfl:=List.isEmpty_iff.mp (AI hg)
  obtain⟨a,e,p⟩:=q
  obtain rfl:a=some y:=hy
  refine⟨rfl,wpAny_evalAll_cons (wpAny_bind (pH T hr hA Ag hv I N λG' s' v' N' I' L z=>wpAny_bind (wpAny_standAt (wpAny_pure (wpAny_evalAll_nil ?_)))))⟩
  exact k _ _ _ N' I' L (.cons z .nil)
theorem Wi(h:BV sc x=true):sc.names.lookup x=some .globalImplicit:=by
 unfold BV at h
 revert h
 generalize sc.names.lookup x=o
 cases o with
 |none=>exact λh=>Ck h
 |some k=>cases k<;>first|exact λ_=>rfl|exact λh=>Ck h
theorem Ux(T:Bx c top)(I:Inv c G s env ρ)(Ag:Cu c sc env){f:Str}{p:Pos}{v:Value}(hg:BV sc f=true)(ho:DI f=false)(hv:c.mg f=some v)(k:Q v s):wpAny M A (eval (.Name f p) env) Q E s:=by
 refine Name_function_global I.kf ?_ (loadGlobal_global (mg:=c.mg) (by rw[I.gl];exact T.glob.at' λo e=>I.stat.keep _ _ e T.ngl) hv k) (Me ho).1
 rw[<-Ag.1] at hg
 exact Wi hg
theorem Iy{a:PySem.Expr}{kw:List (Option Str×Sem Value)}{Q:Args->Shared->Prop}(ha:BI a=true)(rE:kw.all (·.1.isSome)=true)
 (h:wpAny M A (eval a env) (λCo Ad=>wpAny M A (spliced (backTo pos (starEach es env))) (λvs A4=>wpAny M A (PySem.evalAll (kw.map (·.2))) (λks AU=>Q ⟨Co::vs,(kw.filterMap (·.1)).zip ks⟩ AU) E A4) E Ad) E s):
 wpAny M A (evalArgs fv true (backTo pos (starEach (a::es) env)) kw) Q E s:=by
 rw[D7 ha]
 exact evalArgs_kw rE (spliced_cons h)
theorem MB(I:Inv c G s env ρ){KI:R}(L:Lend G Gb s.heap)(hn:∀a p k,Gb a≠some (.own p k))(D:Ij c G Gb s so Go AN KI Cj):
 Came c (λ_=>False) G Gb s so Go/\Nx c ρ G s ρ (G.back Go) so/\Inv c (G.back Go) so env ρ:=by
 have K:=D.came λa p k e=>absurd e (hn a p k)
 have Z:=Rq I L K (λ_ h=>h) rfl λx u e=>⟨u,e,λv' z=>Qk I L K (λa _ _ p j=>hn a p j) z⟩
 exact⟨K,Z.1 _ _ _ (λ_ h=>h.elim) (.refl ..),Z.2⟩
theorem oM:∀(l:List (Str×AV)) (p:Str) (v:AV),((l++[(p,v)]).lookup p).isSome=true:=by
 intro Al
 induction Al with
 |nil=>
  intro p v
  simp
 |cons zx r zih=>
  obtain⟨y,u⟩:=zx
  intro p v
  rw[List.cons_append,List.lookup_cons]
  by_cases q:p=y
  ·rw[q,beq_self_eq_true];rfl
  ·rw[show(p==y)=false by simpa using q];exact zih p v
theorem We(T:Bx c top)(hr:Bd prog w c n r)(hA:OkA A (n+1))(I:Inv c G s env ρ)(F:Ei c d a o fd)(L:Lend G Gb s.heap){pos:List AV}{b:List (Str×AV)}
 (hb:D9 d.ps (Co::pos) kw=some b) (h0:∀p,d.ps.args.head?.map (·.arg)=some p->OR c Gb s.heap p Co KO/\∀a q k,Gb a=some (.own q k)->q=p) (hp:VRs G pos Ba) (hk:BR (λ_=>AR G) kw Ci) {v:AV} {Cj:R} (h:BZ r d b=some (v,Cj)) {Q:Value->Shared->Prop}
 (k:∀Go so AN v',Ij c G Gb s so Go AN ⟨b.reverse,λ_=>false⟩ Cj->(∀p,d.ps.args.head?.map (·.arg)=some p->(b.reverse.lookup p).isSome=true)->VR Go v v'->Q v' so):codeAny (model prog w) A (.call (.ref a) ⟨KO::Ba,Ci⟩) (λr s'=>match r with|.ok (.ret v)=>Q v s'|.ok _=>False|.error e=>E e s') s:=by
 have le:G.Le Gb:=L.fro
 have hn:=F.names _ _ _ hb
 refine D3 (F.binds (AR Gb) s Co KO pos Ba kw Ci b I.stat.keep hb (hp.a2 λ_ _ z=>.inl (z.mono le)) (hk.imp λ_ _ _ z=>z.mono le) (.inl .none) (λt=>.inl .int)) λp Hb Jw B2 e2 e3 e4=>?_;obtain rfl:=B2
 obtain⟨z,y⟩:=h0 p e2
 have hp:(((p,Co)::Hb).reverse.lookup p).isSome=true:=by rw[List.reverse_cons];exact oM _ _ _
 refine WA hr ⟨T.lim,T.nst⟩ F hA I L e3 (.cons z (e4.imp λx _ _ q=>q.or)) hn (λa q k' e=>?_) h λGo so AN v' D=>k Go so AN v' D λp' e=>?_
 ·rw[y a q k' e];exact hp
 ·rw[e2] at e;(revert e;refine As λc0=>?_;subst c0);exact hp
theorem Rr(T:Bx c top)(hr:Bd prog w c n r)(hA:OkA A (n+1))(I:Inv c G s env ρ)(F:Ei c d a o fd)(L:Lend G Gb s.heap){pos:List AV}{b:List (Str×AV)}
 (hb:D9 d.ps (Co::pos) kw=some b) (h0:∀p,d.ps.args.head?.map (·.arg)=some p->OR c Gb s.heap p Co KO/\∀a q k,Gb a=some (.own q k)->q=p) (hp:VRs G pos Ba) (hk:BR (λ_=>AR G) kw Ci) {v:AV} {Cj:R} (h:BZ r d b=some (v,Cj)) {Q:Value->Shared->Prop}
 (k:∀Go so AN v',Ij c G Gb s so Go AN ⟨b.reverse,λ_=>false⟩ Cj->(∀p,d.ps.args.head?.map (·.arg)=some p->(b.reverse.lookup p).isSome=true)->VR Go v v'->Q v' so):wpAny (model prog w) A (call (.ref a) (KO::Ba) Ci) Q E s:=wpAny_call (We T hr hA I F L hb h0 hp hk h k)
theorem Lend.plain:Lend G (G.lend λ_=>none) s.heap:=.of (λ_ _ e=>nomatch e) (λ_ _=>rfl) (λ_ _ _ _ e=>nomatch e)
theorem Nj{r:AP}(e:G.lend (λ_=>none) a=some r):∃o,r=.fro o/\G a=some (.fro o):=(Gh.lend_rl e).resolve_right λq=>nomatch q.1
theorem JX{p:Str}:G.lend (λ_=>none) a≠some (.own p k):= λe=>by
 refine Ak (Nj e) λ_ q _=>?_
 injection q
theorem Kv(T:Bx c top){f:Str}{p:Pos}(hg:BV sc f=true)(ho:DI f=false)(Ag:Cu c sc env)(I:Inv c G s env ρ)(F:Ei c d a o fd)(hf:c.mg f=some (.ref a))
 (h:wpAny (model prog w) A (evalArgs (.ref a) true (backTo pos (starEach args env)) (backToKw pos (keywordEach AT env))) (λx Ad=>Ad.heap.get? a=some o/\wpAny (model prog w) A (call (.ref a) x.pos x.kw) Q E Ad) E s):
 wpAny (model prog w) A (eval (.Call (.Name f p) args AT pos) env) Q E s:=
 wpAny_Call_ofName (Ux T I Ag hg ho hf (callWith_function_kw (wpAny_mono h (λ_ _ h=>⟨⟨h.1,F.data⟩,h.2⟩) λ_ _ e=>e)))
theorem Nz{b:List (Str×AV)}{q:AV×R}(h:BZ r d b=some q):d.sc.isGenerator=false:=by
 refine AL h λ_ hg _=>?_
 simpa using AI hg
theorem NS(h:GU r sc AT ρ=some (ks,ρ')):((backToKw pos (keywordEach AT env)).all (·.1.isSome)=true):=by
 cases AT with
 |nil=>rfl
 |cons q r'=>
  revert h;refine Ai λ_ hg h=>?_
  revert h;refine Ai λy hy h=>?_
  obtain rfl:=List.isEmpty_iff.mp (AI hg)
  obtain⟨a,e,p⟩:=q
  obtain rfl:a=some y:=hy
  rfl
theorem SE.plain(T:Bx c top)(hr:Bd prog w c n r){f:Str}{p:Pos}(hg:BV sc f=true)(ho:DI f=false)(h:Wl r top sc f args AT ρ=some (v,ρ')):SE prog w c (n+1) sc (.Call (.Name f p) args AT pos) ρ v ρ':=by
 revert h;refine Ai λ_ he h=>?_
 revert h;refine Bv λvs Aw B0 h=>?_
 revert h;refine Bv λks B8 Gw h=>?_
 revert h;refine Bv λu Cj hu h=>?_
 (revert h;refine AO λc1 c2=>?_;subst c1;subst c2)
 revert hu;refine Ai λd hd hu=>?_
 refine AL hu λb hb M2=>?_
 refine DS (T.fn f d hd (Nz M2)) λa o fd hf F=>?_
 intro A env G s Q E hA Ag I k
 cases args with
 |nil=>cases AI he
 |cons e es=>
  revert B0;refine Ai λ_ hn B0=>?_
  revert B0;refine Bv λCo AH Ds B0=>?_
  revert B0;refine Bv λvs vS Sl B0=>?_
  (revert B0;refine AO λc1 c2=>?_;subst c1;subst c2)
  refine Kv T hg ho Ag I F hf (Iy (AI hn) (NS Gw) ((hr.e _ _ _ _ _ Ds).then hA.lift Ag I (.refl ..) λAv Ad KO Au An _ Bj=>EC hr hA.lift Ag Sl An Au λAY A4 Ba A8 Ax Ea Dk=>
   (NO T hr hA.lift Ag Gw Ax A8 λCq AU Ci AM Bf Eb Gv=>⟨Bf.stat.keep _ _ F.at' F.nt,?_⟩).2))
  have L:Lend Cq (Cq.lend λ_=>Option.none) AU.heap:=Lend.plain
  refine Rr T hr hA Bf F L hb (λp _=>⟨((Bj.mono (Ea.trans Eb)).mono L.fro).or (h:=AU.heap),λa q k e=>absurd e JX⟩) (Dk.mono Eb) Gv M2 λGo so AN u' D _ W=>?_
  refine DG (MB Bf L (λ_ _ _=>JX) D) λK Ec Di=>?_
  exact k _ _ _ (AM.trans Ec) Di (W.seq (Q1 Bf L K λa C vs n e=>by refine Ak (Nj e) λ_ q z=>?_;(injection q with c0;subst c0);exact z))
theorem SE.borrow(T:Bx c top)(hr:Bd prog w c n r){f:Str}{p q:Pos}(hg:BV sc f=true)(ho:DI f=false)(hx:Ca sc x ρ=some (.ol O3))(h:V5 r top sc f x es AT ρ=some (v,ρ')):
 SE prog w c (n+1) sc (.Call (.Name f p) (.Name x q::es) AT pos) ρ v ρ':=by
 revert h;refine Bv λvs Aw B0 h=>?_
 revert h;refine Bv λks B8 Gw h=>?_
 revert h;refine Ai λCo Ds h=>?_
 revert h;refine Ai λxs Cn h=>?_
 revert h;refine Bv λu Cj hu h=>?_
 revert h;refine Ai λ_ RY h=>?_
 (revert h;refine AO λc1 c2=>?_;subst c1;subst c2)
 obtain rfl:=EK Cn
 revert hu;refine Ai λd hd hu=>?_
 refine AL hu λb hb M2=>?_
 refine DS (T.fn f d hd (Nz M2)) λa o fd hf F=>?_
 intro A env G s Q E hA Ag I k
 refine Kv T hg ho Ag I F hf (Iy rfl (NS Gw) (CF I hx λl' z=>?_))
 revert z;refine DO λl _ Ar gl _ _=>?_;obtain rfl:=Ar
 refine EC hr hA.lift Ag B0 I (.refl ..) λAY A4 Ba A8 Ax Ea Dk=>(NO T hr hA.lift Ag Gw Ax A8 λCq AU Ci AM Bf Eb Gv=>⟨Bf.stat.keep _ _ F.at' F.nt,?_⟩).2
 refine Kn (La I AM Bf gl Ds) λJF its Ar Bj=>?_;obtain⟨m,hl⟩:=Ar
 let T':Addr->Option AP:= λa=>if a=l then some (.fro {cls:=.type "list",data:=.seq its m}) else Option.none
 have L:Lend Cq (Cq.lend T') AU.heap:=.of (λa r e=>by
  by_cases q:a=l
  ·subst q
   rw[show T' a=_ from if_pos rfl] at e;(revert e;refine As λc0=>?_;subst c0)
   exact .inl ⟨_,rfl,hl,λf h=>Data.noConfusion h⟩
  ·rw[show T' a=_ from if_neg q] at e;exact Az e) (λa e=>if_neg λq:a=l=>by rw[q,JF] at e;(revert e;refine As λc0=>?_;injection c0))
  (λa b p k e _=>by
   by_cases q:a=l
   ·rw[show T' a=_ from if_pos q] at e;(revert e;refine As λc0=>?_;injection c0)
   ·rw[show T' a=_ from if_neg q] at e;exact Az e)
 have no:∀a p k,Cq.lend T' a≠some (.own p k):= λa p k e=>by
  rcases Gh.lend_rl e with⟨_,q,_⟩|⟨e,_⟩
  ·injection q
  ·by_cases q:a=l
   ·rw[show T' a=_ from if_pos q] at e;(revert e;refine As λc0=>?_;injection c0)
   ·rw[show T' a=_ from if_neg q] at e;exact Az e
 have gb:Cq.lend T' l=some (.fro {cls:=.type "list",data:=.seq its m}):=(Gh.lend_T JF λ_ h=>AP.noConfusion h).trans (if_pos rfl)
 refine Rr T hr hA Bf F L hb (λp _=>⟨(VR.list gb (Bj.mono L.fro)).or (h:=AU.heap),λa q k e=>absurd e (no a q k)⟩) (Dk.mono Eb) Gv M2 λGo so AN u' D _ W=>?_
 refine DG (MB Bf L no D) λK Ec Di=>?_
 refine k _ _ _ (AM.trans Ec) Di ?_
 have RY:=AI RY
 cases W with
 |none=>exact .none
 |bool=>exact .bool
 |int=>exact .int
 |str=>exact .str
 |_=>exact Ck RY
noncomputable def Ll(G:Gh)(x p:Str)(m:Nat):Addr->Option AP:= λa=>match G a with
 |some (.own y k)=>if y=x/\k<m then some (.own p k) else none
 |_=>none
noncomputable def Gh.lendTo(G:Gh)(x p:Str)(m:Nat):Gh:=G.lend (Ll G x p m)
section
variable {p:Str} {m:Nat} {q:Str}
theorem Lw{r:AP}(e:Ll G x p m a=some r):∃k,r=.own p k/\G a=some (.own x k)/\k<m:=by
 unfold Ll at e
 revert e
 generalize G a=o
 cases o with
 |none=>exact λe=>Az e
 |some r'=>
  cases r' with
  |own y k=>exact λe=>(dite (y=x/\k<m) (λc=>⟨k,(Option.some.inj ((if_pos c).symm.trans e)).symm,c.1▸rfl,c.2⟩) λc=>Az ((if_neg c).symm.trans e))
  |_=>exact λe=>Az e
theorem Iz(e:G.lendTo x p m a=some (.own q k)):q=p/\G a=some (.own x k)/\k<m:=by
 rcases Gh.lend_rl e with⟨_,z,_⟩|⟨z,_⟩
 ·injection z
 ·refine Ak (Lw z) λk' z y=>?_
  (injection z with c0 c1;subst c0;subst c1);exact⟨rfl,y⟩
theorem Qv(e:G a=some (.own x k))(l:k<m):G.lendTo x p m a=some (.own p k):=by
 unfold Gh.lendTo
 rw[Gh.lend_T e λ_ h=>AP.noConfusion h]
 unfold Ll;rw[e]
 exact if_pos ⟨rfl,l⟩
theorem Wz(e:G.lendTo x p m a=some (.fro o)):G a=some (.fro o):=by
 rcases Gh.lend_rl e with⟨_,z,y⟩|⟨z,_⟩
 ·(injection z with c0;subst c0);exact y
 ·refine Ak (Lw z) λ_ z _=>?_
  injection z
theorem W9(u:∀a b k,G a=some (.own x k)->G b=some (.own x k)->a=b):Lend G (G.lendTo x p m) h:=.of (λa r e=>by
 refine Cf (Lw e) λk z y _=>?_
 exact .inr ⟨p,k,x,k,z,y⟩) (λa e=>by unfold Ll;rw[e])
 (λa b q k e e'=>by
  refine Cf (Lw e) λ_ z y _=>?_
  (injection z with c0 c1;subst c0;subst c1)
  refine Cf (Lw e') λ_ z y' _=>?_
  cases z
  exact u a b k y y')
theorem OL.lend{v:Value}(l:k<m)(u:G.Le (G.lendTo x p m))(z:OL G h x k xs v):OL (G.lendTo x p m) h p k xs v:=by
 revert z;refine DO λa vs e g hp V=>?_
 exact⟨a,vs,e,Qv g l,hp,V.mono u⟩
end
theorem Nu(I:Inv c G s env ρ)(L:Lend G Gb s.heap)(K:Came c (λ_=>False) G Gb s so Go)(h:∀a o,Gb a=some (.fro o)->G a=some (.fro o)):Go.Le (G.back Go):= λa o e=>K.fro' I L e λo' b q=>by subst q;exact h _ _ b
theorem Qs(I:Inv c G s env ρ)(L:Lend G Gb s.heap)(K:Came c (λ_=>False) G Gb s so Go)(hx:ρ.get x=some v)(h:∀a y k p j,G a=some (.own y k)->Gb a=some (.own p j)->y=x)(hu:∀v',OR c G s.heap x v v'->OR c (G.back Go) so.heap x u v'):
 Nx c ρ G s (ρ.set x u) (G.back Go) so/\Inv c (G.back Go) so env (ρ.set x u):=
 (λZ=>⟨Z.1 _ _ _ (λ_ h=>h.elim) (.refl ..),Z.2⟩) <| Rq I L K (λy d=>R.dom_set _ _ _ _ d) rfl λy t e=>by
  rw[R.get_set] at e
  by_cases q:y=x
  ·rw[if_pos q] at e;(revert e;refine As λc0=>?_;subst c0);subst q;exact⟨v,hx,hu⟩
  ·rw[if_neg q] at e
   exact⟨t,e,λv' z=>Qk I L K (λa k g p j b=>q (h a y k p j g b)) z⟩
theorem Of{p:Arg}(h:d.ps.args.head?=some p):d.ps.args.head?.map (·.arg)=some p.arg:=by rw[h];rfl
theorem mZ(T:Bx c top)(hr:Bd prog w c n r)(hA:OkA A (n+1))(I:Inv c G s env ρ)(F:Ei c d a o fd){pos:List AV}{l:Addr}(gl:G l=some (.own x 0))
 (hp:VRs G pos Ba) (hk:BR (λ_=>AR G) kw Ci) {v:AV} (h:Oi r d x pos kw ρ=some (v,ρ')) {Q:Value->Shared->Prop} (k:∀G' s' v',Nx c ρ G s ρ' G' s'->Inv c G' s' env ρ'->VR G' v v'->Q v' s'):
 wpAny (model prog w) A (call (.ref a) (.ref l::Ba) Ci) Q E s:=by
 revert h;refine Ai λCo Ds h=>?_
 revert h;refine Ai λxs Cn h=>?_
 revert h;refine Ai λp I6 h=>?_
 revert h;refine Ai λb hb h=>?_
 revert h;refine Bv λu C3 hu h=>?_
 revert h;refine Ai λAw hi h=>?_
 (revert h;refine AO λc1 c2=>?_;subst c1;subst c2)
 revert hi;refine Ai λt ht hi=>?_
 revert hi;refine Ai λys J9 hi=>?_
 (revert hi;refine As λc0=>?_;subst c0)
 obtain rfl:=EK Cn
 obtain rfl:=EK J9
 have He:= λa b k=>I.uniq a b x k
 have L:Lend G (G.lendTo x p.arg 1) s.heap:=W9 He
 obtain⟨v',H7⟩:=I.or Ds
 revert H7;refine DO λl' its Ar JF hl V=>?_;obtain rfl:=Ar
 obtain rfl:=I.uniq _ _ _ _ gl JF
 refine Rr T hr hA I F L hb (λp' e=>?_) hp hk hu λGo so AN u' D hd W=>?_
 ·rw[Of I6] at e;(revert e;refine As λc0=>?_;subst c0)
  exact⟨OL.lend (Nat.lt_succ_self 0) L.fro ⟨l,its,rfl,gl,hl,V⟩,λa q k e=>(Iz e).1⟩
 ·obtain⟨w',z⟩:=D.inv.or ht
  revert z;refine DO λl₂ sJ Ar Jr ES Dk=>?_;obtain rfl:=Ar
  refine DG (Iz (D.back _ _ _ Jr (hd _ (Of I6)))) λ_ JJ _=>?_
  obtain rfl:=I.uniq _ _ _ _ gl JJ
  have K:=D.came λb q j e=>by
   obtain⟨rfl,e,hj⟩:=Iz e
   obtain rfl:j=0:=by exact Nat.le_antisymm (Ah 0x14c020116a1201 Aa hj) (Ah 0x14c0102 Aa)
   obtain rfl:=I.uniq _ _ _ _ e gl
   exact⟨_,_,Jr⟩
  have le:=Nu I L K λ_ _ e=>Wz e
  obtain⟨N,J⟩:=Qs I L K (u:=.ol ys) Ds (λb y k q j e e'=>by
   obtain⟨_,e'',_⟩:=Iz e'
   rw[e] at e'';cases e'';rfl) λv' z=>by
   obtain⟨l₃,_,rfl,g₄,_⟩:=z
   obtain rfl:=I.uniq _ _ _ _ gl g₄
   exact⟨l,sJ,rfl,Gh.back_some gl,ES,Dk.mono le⟩
  exact k _ _ _ N J (W.mono le)
theorem LXs.lend{p:Str}{push signs:List AV}{X:JT}(z:LXs c G s.heap x line push signs X)(le:G.Le (G.lendTo x p 4)):LXs c (G.lendTo x p 4) s.heap p line push signs X:=
 ⟨Qv z.ga (by decide),z.ha,Qv z.gd (by decide),z.hd,z.push.lend (by decide) le,z.signs.lend (by decide) le,le _ _ z.gst,le _ _ z.gd2,z.read,le _ _ z.gf,z.cls,z.data,z.glob,z.blt,z.code,le _ _ z.gc,z.cdata,z.cname,z.body,z.text,z.clos,le _ _ z.gcc,z.cell,z.dflt⟩
@[elab_as_elim] theorem l9{P:Nat->Prop}(h0:P 0)(h1:P 1)(h2:P 2)(h3:P 3)(hk:k<4):P k:=
 Nat.rec (motive:= λk=>k<4->P k) (λ_=>h0) (λk _=>Nat.rec (motive:= λk=>k+1<4->P (k+1)) (λ_=>h1) (λk _=>Nat.rec (motive:= λk=>k+2<4->P (k+2)) (λ_=>h2) (λk _=>Nat.rec (motive:= λk=>k+3<4->P (k+3)) (λ_=>h3) (λk _ h=>absurd h (Nat.not_lt.mpr (Nat.le_add_left 4 k))) k) k) k) k hk
theorem Tp(T:Bx c top)(hr:Bd prog w c n r)(hA:OkA A (n+1))(I:Inv c G s env ρ)(F:Ei c d a o fd){pos:List AV}{l:Addr}(gl:G l=some (.own x 3))
 (hp:VRs G pos Ba) (hk:BR (λ_=>AR G) kw Ci) {v:AV} (h:Ho r d x pos kw ρ=some (v,ρ')) {Q:Value->Shared->Prop} (k:∀G' s' v',Nx c ρ G s ρ' G' s'->Inv c G' s' env ρ'->VR G' v v'->Q v' s'):
 codeAny (model prog w) A (.call (.ref a) ⟨.ref l::Ba,Ci⟩) (λr s'=>match r with|.ok (.ret v)=>Q v s'|.ok _=>False|.error e=>E e s') s:=by
 revert h;refine Ai λCo Ds h=>?_
 revert h;refine Ai λxs Cn h=>?_
 revert h;refine Ai λp I6 h=>?_
 revert h;refine Ai λb hb h=>?_
 revert h;refine Bv λu C3 hu h=>?_
 revert h;refine Ai λAw hi h=>?_
 (revert h;refine AO λc1 c2=>?_;subst c1;subst c2)
 revert hi;refine Ai λt ht hi=>?_
 revert hi;refine Ai λys J9 hi=>?_
 (revert hi;refine As λc0=>?_;subst c0)
 rw[Jk Cn] at Ds
 rw[Jk J9] at ht
 have He:= λa b k=>I.uniq a b x k
 have L:Lend G (G.lendTo x p.arg 4) s.heap:=W9 He
 obtain⟨v',H7⟩:=I.or Ds
 revert H7;refine Cw λX Bc HX=>?_;obtain rfl:=Bc
 obtain rfl:=I.uniq _ _ _ _ gl HX.ga
 refine We T hr hA I F L hb (λp' e=>?_) hp hk hu λGo so AN u' D hd W=>?_
 ·rw[Of I6] at e;(revert e;refine As λc0=>?_;subst c0)
  exact⟨⟨X,rfl,HX.lend L.fro⟩,λa q k e=>(Iz e).1⟩
 ·obtain⟨w',z⟩:=D.inv.or ht
  revert z;refine Cw λY Bc HY=>?_;obtain rfl:=Bc
  have bk:∀{b j},Go b=some (.own p.arg j)->G b=some (.own x j):= λe=>(Iz (D.back _ _ _ e (hd _ (Of I6)))).2.1
  refine Fe (HY.push) λpa ps q1 q2 q3 q4=>?_
  refine Fe (HY.signs) λsa ss r1 r2 r3 r4=>?_
  have K:=D.came λb q j e=>by
   obtain⟨rfl,e,hj⟩:=Iz e
   have m:∀{b'},Go b'=some (.own p.arg j)->∃q j,Go b=some (.own q j):= λg=>by
    obtain rfl:=I.uniq _ _ _ _ e (bk g)
    exact⟨_,_,g⟩
   revert m
   refine l9 (k:=j) ?_ ?_ ?_ ?_ hj
   ·exact λm=>m HY.gd
   ·exact λm=>m q2
   ·exact λm=>m r2
   ·exact λm=>m HY.ga
  have le:=Nu I L K λ_ _ e=>Wz e
  obtain⟨N,J⟩:=Qs I L K (u:=.lex ys.1 ys.2.1 ys.2.2) Ds (λb y k q j e e'=>by
   obtain⟨_,e'',_⟩:=Iz e'
   rw[e] at e'';cases e'';rfl) λv' z=>by
   obtain⟨Z,rfl,HZ⟩:=z
   obtain e:=I.uniq _ _ _ _ HZ.ga (bk HY.ga)
   exact⟨Y,by rw[e],Gh.back_some (bk HY.ga),HY.ha,Gh.back_some (bk HY.gd),HY.hd,⟨pa,ps,q1,Gh.back_some (bk q2),q3,q4.mono le⟩,⟨sa,ss,r1,Gh.back_some (bk r2),r3,r4.mono le⟩,le _ _ HY.gst,le _ _ HY.gd2,HY.read,
    le _ _ HY.gf,HY.cls,HY.data,HY.glob,HY.blt,HY.code,le _ _ HY.gc,HY.cdata,HY.cname,HY.body,HY.text,HY.clos,le _ _ HY.gcc,HY.cell,HY.dflt⟩
  exact k _ _ _ N J (W.mono le)
theorem VW(T:Bx c top)(hr:Bd prog w c n r)(hA:OkA A (n+1))(I:Inv c G s env ρ)(F:Ei c d a o fd){pos:List AV}{l:Addr}(gl:G l=some (.own x 3))
 (hp:VRs G pos Ba) (hk:BR (λ_=>AR G) kw Ci) {v:AV} (h:Ho r d x pos kw ρ=some (v,ρ')) {Q:Value->Shared->Prop} (k:∀G' s' v',Nx c ρ G s ρ' G' s'->Inv c G' s' env ρ'->VR G' v v'->Q v' s'):
 wpAny (model prog w) A (call (.ref a) (.ref l::Ba) Ci) Q E s:=wpAny_call (Tp T hr hA I F gl hp hk h k)
theorem VL{l:Addr}(I:Inv c G s env ρ)(N:Nx c ρ G s ρ' G' s')(ga:G l=some (.own x 3)){q:Int×List AV×List AV}(h:ρ'.get x=some v)(hq:v.lex?=some q)(I':Inv c G' s' env ρ'):G' l=some (.own x 3):=by
 rw[Jk hq] at h
 refine Dc (I'.or h) λv' X Ar HX=>?_;obtain rfl:=Ar
 obtain rfl:=I.uniq _ _ _ _ (N.own _ _ _ HX.ga (I.res _ _ _ ga)) ga
 exact HX.ga
set_option tactic.hygienic true in
theorem SE.lent(T:Bx c top)(hr:Bd prog w c n r){f:Str}{p:Pos}(hg:BV sc f=true)(ho:DI f=false)(h:Ps r top sc f args AT ρ=some (v,ρ')):
 SE prog w c (n+1) sc (.Call (.Name f p) args AT pos) ρ v ρ':=by
 unfold Ps at h
 intro A env G s Q E hA Ag I k
 split at h
 ·exact Az h
 ·refine AL h λd hd h2=>?_
  split at h2
  ·rename_i x O3 M4
   obtain⟨⟨q,he⟩,hx⟩:=Nq M4
   refine BQ h2 λvs Aw B0 h3=>?_
   refine BQ h3 λks B8 Gw h4=>?_
   subst he
   have Hc:d.sc.isGenerator=false:=by
    refine AL h4 λCo Ds k1=>?_
    refine AL k1 λxs Cn k2=>?_
    refine AL k2 λp I6 k3=>?_
    refine AL k3 λb hb k4=>?_
    refine AL k4 λ_ hu _=>?_
    exact Nz hu
   refine DS (T.fn f d hd Hc) λa o fd hf F=>?_
   refine Kv T hg ho Ag I F hf (Iy rfl (NS Gw) (CF I hx λl' z=>?_))
   revert z;refine DO λl _ Ar gl _ _=>?_;obtain rfl:=Ar
   refine EC hr hA.lift Ag B0 I (.refl ..) λAY A4 Ba A8 Ax Ea Dk=>(NO T hr hA.lift Ag Gw Ax A8 λCq AU Ci AM Bf Eb Gv=>⟨Bf.stat.keep _ _ F.at' F.nt,?_⟩).2
   have RQ:Cq l=some (.own x 0):=by
    refine AL h4 λCo Ds k1=>?_
    refine AL k1 λxs Cn _=>?_
    exact(La I AM Bf gl (by rw[Ds,EK Cn])).1
   exact mZ T hr hA Bf F RQ (Dk.mono Eb) Gv h4 λG' s' v' N' I' W=>k _ _ _ (AM.trans N') I' W
  ·refine BQ h2 λx Yl M4 sM=>?_
   obtain⟨⟨q,he⟩,hx⟩:=HS M4
   refine BQ sM λvs Aw B0 h3=>?_
   refine BQ h3 λks B8 Gw h4=>?_
   subst he
   have Hc:d.sc.isGenerator=false:=by
    refine AL h4 λCo Ds k1=>?_
    refine AL k1 λxs Cn k2=>?_
    refine AL k2 λp I6 k3=>?_
    refine AL k3 λb hb k4=>?_
    refine AL k4 λ_ hu _=>?_
    exact Nz hu
   refine DS (T.fn f d hd Hc) λa o fd hf F=>?_
   refine Kv T hg ho Ag I F hf (Iy rfl (NS Gw) (CF I hx λl' z=>?_))
   revert z;refine Cw λX Bc HX=>?_;obtain rfl:=Bc
   refine EC hr hA.lift Ag B0 I (.refl ..) λAY A4 Ba A8 Ax Ea Dk=>(NO T hr hA.lift Ag Gw Ax A8 λCq AU Ci AM Bf Eb Gv=>⟨Bf.stat.keep _ _ F.at' F.nt,?_⟩).2
   have RQ:Cq X.a=some (.own x 3):=by
    refine AL h4 λCo Ds k1=>?_
    refine AL k1 λxs Cn _=>?_
    exact VL I AM HX.ga Ds Cn Bf
   exact VW T hr hA Bf F RQ (Dk.mono Eb) Gv h4 λG' s' v' N' I' W=>k _ _ _ (AM.trans N') I' W
theorem kD{v:Value}{k:List (Option PySem.Expr)}{d:List PySem.Expr}(h:fd.params=⟨[],[⟨x,an,pos⟩],none,[],k,none,d⟩)(hd:fd.defaults=.none)(hx:x="pair"∨x="head"∨x="size"):bindArgs fd ⟨[v],[]⟩=pure [(x,v)]:=by
 have e:fd={fd with params:=⟨[],[⟨x,an,pos⟩],none,[],k,none,d⟩,defaults:=.none}:=by rw[<-h,<-hd]
 rw[e]
 rcases hx with rfl|rfl|rfl<;>rfl
theorem nU{v:Value}(h:Na fd.params=some x)(hd:fd.defaults=.none):bindArgs fd ⟨[v],[]⟩=pure [(x,v)]:=by
 revert h;refine Ai λa ha h=>?_
 revert h;refine Ai λ_ hg h=>?_
 (revert h;refine As λc0=>?_;subst c0)
 obtain⟨g1,g2⟩:=Bool.and_eq_true_iff.mp (AI hg)
 have ha:=E2 ha
 unfold GW at g1
 simp only[Bool.and_eq_true,List.isEmpty_iff,Option.isNone_iff_eq_none] at g1
 obtain⟨⟨⟨⟨h2,h3⟩,h4⟩,h5⟩,h6⟩:=g1
 obtain⟨x,an,pos⟩:=a
 refine kD (an:=an) (pos:=pos) (k:=fd.params.kw_defaults) (d:=fd.params.defaults) ?_ hd ?_
 ·revert h2 h3 h4 h5 ha
  generalize fd.params=ps
  obtain⟨p1,p2,p3,p4,p5,p6,p7⟩:=ps
  rintro rfl rfl rfl rfl rfl
  rfl
 ·simpa [or_assoc] using g2
theorem Pd(h:Im sc x=true):sc.names.lookup x=some .local:=by
 unfold Im at h
 revert h
 generalize sc.names.lookup x=o
 cases o with
 |none=>exact λh=>Ck h
 |some k=>cases k<;>first|exact λ_=>rfl|exact λh=>Ck h
theorem SW(T:Bx c top)(hr:Bd prog w c n r)(hA:OkA A (n+1))(I:Inv c G s env ρ)(L:Lend G Gb s.heap){f:Addr}{oc:Obj}{t:Tok}
 (gf:G f=some (.fro o)) (data:o.data=.func fd) (hb:fd.body=.expr body) (glob:fd.globals=mainGlobals) (blt:fd.builtins=builtinsNs) (code:fd.code=.ref cc) (gc:G cc=some (.fro oc)) (cdata:oc.data=.fields cvs) (cname:cvs[1]? =some (.str fd.qualname t))
 (inj:∀x y a,fd.closure.lookup x=some a->fd.closure.lookup y=some a->x=y) (held:∀x a,fd.closure.lookup x=some a->∃o,G a=some (.fro o)) (dflt:fd.defaults=.none)
 (hx:Na fd.params=some x) (g1:DF fd.scope=none) (g2:Im fd.scope x=true) (g3:fd.scope.kind=.function) (g4:fd.scope.isGenerator=false) (g5:fd.scope.isCoroutine=false) (g6:∀p∈fd.scope.names,p.2≠.cell)
 (g7:∀p∈caught,Ay fd.scope p.1=true) (hv:OR c Gb s.heap x v v') (hc:∀y u,caught.lookup y=some u->∃a o u',fd.closure.lookup y=some a/\G a=some (.fro o)/\o.data=.cell (some u')/\OR c Gb s.heap y u u') (Jq:∀a p k,Gb a=some (.own p k)->(caught.lookup p).isSome=true/\p≠x)
 {u:AV} {Cj:R} (h:r.e fd.scope body ⟨(x,v)::caught,λ_=>true⟩=some (u,Cj)) {Q:Value->Shared->Prop}
 (k:∀Go so AN v',Ij c G Gb s so Go AN ⟨(x,v)::caught,λ_=>true⟩ Cj->VR Go u v'->Q v' so):wpAny (model prog w) A (call (.ref f) [v'] []) Q E s:=by
 refine wpAny_call (kla_callFunE (by have:=hA.2.1;rw[show recursionLimit=1000 from rfl];exact Ac 0x16c3e8330114a3843344154121101 Aa this) (I.fro _ _ gf) data g5 g4 hb ⟨cc,oc,cvs,t,code,I.fro _ _ gc,cdata,cname⟩ ?_)
 rw[nU hx dflt]
 refine wpAny_pure (wpAny_newFunctionEnv g6 (λy m=>by rcases List.mem_singleton.mp m with rfl;exact Pd g2) (λh' CE RO=>?_) g3)
 have keep:∀a o,s.heap.get? a=some o->h'.get? a=some o:= λa o e=>RO.extBut a o (Nat.ne_of_lt (Heap.lt_size e)) (Heap.get?_push_of_some _ e)
 rw[glob,blt]
 have look:∀{y u'},(R.mk ((x,v)::caught) λ_=>true).get y=some u'->(y=x/\u'=v)∨(y≠x/\caught.lookup y=some u'):= λ{y u'} e=>by
  rw[R.get,List.lookup_cons] at e
  by_cases q:y=x
  ·rw[q,beq_self_eq_true] at e;(revert e;refine As λc0=>?_;subst c0);exact .inl ⟨q,rfl⟩
  ·rw[show(y==x)=false by simpa using q] at e;exact .inr ⟨q,e⟩
 have S:Jp c Gb s {s with heap:=h',toks:=s.toks+1} (newEnv fd.scope s.heap.objs.size mainGlobals fd.closure (fd.qualname++".<locals>.") (some f) fd.code none builtinsNs) ⟨(x,v)::caught,λ_=>true⟩:=by
  refine⟨Nat.le_refl _,keep,rfl,Nat.succ_pos _,g3,rfl,rfl,⟨_,CE,λy u' e k=>?_⟩,λy u' e=>?_,λy h=>(nomatch h),λy a e=>?_,inj,λa p k e=>?_⟩
  ·rcases look e with⟨rfl,rfl⟩|⟨_,e⟩
   ·exact⟨v',by simp,hv⟩
   ·have:=Ib (g7 _ (mem_of_lookup e))
    rw[show fd.scope.names.lookup y=some .local from k] at this
    (revert this;refine As λc0=>?_;injection c0)
  ·rcases look e with⟨rfl,rfl⟩|⟨_,e⟩
   ·exact .inl (Pd g2)
   ·refine D3 (hc y u' e) λa o tI e1 e2 e3 e4=>?_
    exact .inr ⟨.inr (Ib (g7 _ (mem_of_lookup e))),a,o,tI,e1,keep _ _ (I.fro _ _ e2),e3,e4,.inr (L.fro _ _ e2)⟩
  ·obtain⟨o,e⟩:=held y a e
   exact⟨_,keep _ _ (I.fro _ _ e)⟩
  ·obtain⟨h1,h2⟩:=Jq a p k e
   rw[R.get,List.lookup_cons,show(p==x)=false by simpa using h2]
   exact h1
 have J:=enter I L S
 refine⟨?_,kla_codeExpr ?_⟩
 ·refine Ak (T.lim) λmc CZ hm=>?_
  exact⟨mc,CZ.at' λo e=>keep _ _ (I.stat.keep _ _ e T.nst),hm⟩
 ·refine hr.e _ _ _ _ _ h _ _ _ {s with heap:=h',toks:=s.toks+1} _ _ ⟨hA.1,?_,?_⟩ ⟨rfl,λf hf=>by rw[g1] at hf;exact Az hf⟩ J λGo so w' N Jo W=>?_
  ·have:=hA.2.1;show A.depth+1+4*n<=900;exact Ac 0x14c384334415114120114a3843344154121101 Aa this
  ·have:=hA.2.2;show A.units+3+60*n<=9000;exact Ac 0x14c23284343c25114320114a23284343c254121101 Aa this
  ·refine k Go so _ w' ⟨Jo,λa p k e d=>?_,came I L S rfl N Jo⟩ W
   have q:=N.own a p k e d
   by_cases D4:a<s.heap.objs.size
   ·exact(Gh.enter_lt D4).symm.trans q
   ·rcases Gh.enter_rl D4 q with⟨_,z⟩|⟨_,z⟩<;>injection z
theorem SE.loc(T:Bx c top)(hr:Bd prog w c n r){f:Str}{p:Pos}(h:TZ r sc f args ρ=some (v,ρ')):SE prog w c (n+1) sc (.Call (.Name f p) args [] pos) ρ v ρ':=by
 revert h;refine Ai λg hg h=>?_
 revert h;refine Ai λ_ he h=>?_
 revert h;refine Bv λvs Aw B0 h=>?_
 revert h;refine Ai λu hu h=>?_
 (revert h;refine AO λc1 c2=>?_;subst c1;subst c2)
 revert hu;refine Ai λq hq hu=>?_
 revert hu;refine Ai λx hx hu=>?_
 revert hu;refine Ai λCo h0 hu=>?_
 revert hu;refine Ai λ_ hgu hu=>?_
 revert hu;refine Bv λu' Cj hb hu=>?_
 (revert hu;refine As λc0=>?_;subst c0)
 have h0:=E2 h0
 rw[Uc hq] at hg
 obtain⟨hgu,g7⟩:=Bool.and_eq_true_iff.mp (AI hgu)
 obtain⟨hgu,g6⟩:=Bool.and_eq_true_iff.mp hgu
 obtain⟨hgu,g5⟩:=Bool.and_eq_true_iff.mp hgu
 obtain⟨hgu,g4⟩:=Bool.and_eq_true_iff.mp hgu
 obtain⟨hgu,g3⟩:=Bool.and_eq_true_iff.mp hgu
 obtain⟨g1,g2⟩:=Bool.and_eq_true_iff.mp hgu
 intro A env G s Q E hA Ag I k
 cases args with
 |nil=>cases AI he
 |cons e es=>
  refine AL B0 λ_ hn Sl=>?_
  refine wpAny_Call_ofName (CF I hg λf' z=>?_)
  revert z;refine S8 λOF o fd cc oc cvs t Ru C=>?_;obtain rfl:=Ru
  refine callWith_function_kw (wpAny_mono (Q:= λx Ad=>Ad.heap.get? OF=some o/\wpAny (model prog w) A (call (.ref OF) x.pos x.kw) Q E Ad) ?_ (λ_ _ h=>⟨⟨h.1,C.data⟩,h.2⟩) λ_ _ e=>e)
  have e3:backTo pos (starEach (e::es) env)=(false,eval e env)::backTo pos (starEach es env):=by rw[D7 (AI hn)];rfl
  rw[e3]
  refine evalArgs_kw rfl ?_
  rw[<-e3]
  refine EC hr hA.lift Ag B0 I (.refl ..) λAv Ad Ba Au An B5 Bj=>wpAny_evalAll_nil ?_
  rw[h0] at Bj
  cases Bj with
  |cons W₀ W₁=>
  cases W₁
  have BU:=C.mono B5
  refine⟨An.fro _ _ BU.gf,?_⟩
  have L:Lend Av (Av.lend λ_=>Option.none) Ad.heap:=Lend.plain
  refine SW T hr hA An L BU.gf BU.data BU.body BU.glob BU.blt BU.code BU.gc BU.cdata BU.cname BU.inj BU.held BU.dflt (by rw[BU.params];exact hx) (by rw[BU.scope];simpa using g1) (by rw[BU.scope];exact g2) (by rw[BU.scope];simpa using g3) (by rw[BU.scope];simpa using g4) (by rw[BU.scope];simpa using g5)
   (λp m=>by rw[BU.scope] at m;simpa using List.all_eq_true.mp g6 p m) (λp m=>by rw[BU.scope];exact List.all_eq_true.mp g7 p m) ((W₀.mono L.fro).or) (λy u e=>?_) (λa p k e=>absurd e JX) (by rw[BU.scope];exact hb) λGo so AN w' D W=>?_
  ·refine D3 (BU.caught y u e) λa o u' e1 e2 e3 e4=>?_
   exact⟨a,o,u',e1,e2,e3,(e4.mono L.fro).or⟩
  ·refine DG (MB An L (λ_ _ _=>JX) D) λK Ec Di=>?_
   exact k _ _ _ (Au.trans Ec) Di (W.seq (Q1 An L K λa C vs n e=>by refine Ak (Nj e) λ_ q z=>?_;(injection q with c0;subst c0);exact z))
theorem mG:∀(l:List Int) (n:Int),l.foldl min n∈n::l/\∀a∈n::l,l.foldl min n<=a:=by
 intro Al
 induction Al with
 |nil=>
  intro n
  exact⟨List.mem_cons_self,λa m=>by rcases List.mem_singleton.mp m with rfl;exact Int.le_refl _⟩
 |cons k l ih=>
  intro n
  obtain⟨h1,h2⟩:=ih (min n k)
  refine⟨?_,λa m=>?_⟩
  ·show l.foldl min (min n k)∈_
   rcases List.mem_cons.mp h1 with h|h
   ·rw[h]
    rcases Int.le_total n k with q|q
    ·rw[Int.min_eq_left q];exact List.mem_cons_self
    ·rw[Int.min_eq_right q];exact List.mem_cons_of_mem _ List.mem_cons_self
   ·exact List.mem_cons_of_mem _ (List.mem_cons_of_mem _ h)
  ·show l.foldl min (min n k)<=a
   have h3:=h2 _ List.mem_cons_self
   rcases List.mem_cons.mp m with rfl|m
   ·exact Int.le_trans h3 (Int.min_le_left ..)
   ·rcases List.mem_cons.mp m with rfl|m
    ·exact Int.le_trans h3 (Int.min_le_right ..)
    ·exact h2 _ (List.mem_cons_of_mem _ m)
theorem QE(e:Hw xs=some ns)(q:VRs G xs vs):IntsAre vs ns:=by
 refine q.ind (P:= λxs vs=>∀ns,Hw xs=some ns->IntsAre vs ns) (λ_ e=>Option.some.inj e▸.nil) (λ_ _ _ _ a _ ih _ e=>?_) ns e
 revert e;refine Ai λi hi e=>?_
 revert e;refine Ai λis hs e=>?_
 obtain⟨t,rfl⟩:=VR.isInt hi a
 exact Option.some.inj e▸.cons _ _ (ih _ hs)
theorem Hj(I:Inv c G s env ρ)(hp:0<tk)(hk:∀b o,s.heap.get? b=some o->h'.get? b=some o):Nx c ρ G s ρ G {s with heap:=h',toks:=tk}/\Inv c G {s with heap:=h',toks:=tk} env ρ:=
 ⟨.grown hk (λ_ _ e=>e) rfl,I.grown hk I.stat.bare hp⟩
theorem Iw(T:Bx c top)(I:Inv c G s env ρ)(Ag:Cu c sc env){f:Str}{p:Pos}{v:Value}(hg:BV sc f=true)(ho:DI f=false)(hv:c.mg f=none/\c.mb f=some v)(k:Q v s):wpAny M A (eval (.Name f p) env) Q E s:=by
 refine Name_function_global I.kf ?_ (loadGlobal_builtin (mg:=c.mg) (mb:=c.mb) (by rw[I.gl];exact T.glob.at' λo e=>I.stat.keep _ _ e T.ngl) hv.1 (by rw[I.bi];exact T.blt.at' λo e=>I.stat.keep _ _ e T.nbl) hv.2 k) (Me ho).1
 rw[<-Ag.1] at hg
 exact Wi hg
theorem Ob{id:String}{a:PySem.Expr}(ha:BI a=true)(h:wpAny M A (eval a env) (λv Ad=>wpAny M A (call (.builtin id) [v]) Q E Ad) E s):
 wpAny M A (callWith pos (.builtin id) [] (backTo pos (starEach [a] env)) (backToKw pos (keywordEach [] env))) Q E s:=by
 refine callWith_builtin (by rw[D7 ha];rfl) (Iy ha rfl (wpAny_mono h (λv Ad h=>?_) λ_ _ e=>e))
 exact spliced_nil (wpAny_evalAll_nil h)
set_option tactic.hygienic true in
theorem SE.built(T:Bx c top)(hr:Bd prog w c n r){f:Str}{p:Pos}{a:PySem.Expr}(hg:BV sc f=true)(ho:DI f=false)(hf:Jn f=true)(h:Jc r sc f a ρ=some (v,ρ')):SE prog w c n sc (.Call (.Name f p) [a] [] pos) ρ v ρ':=by
 unfold Jc at h
 intro A env G s Q E hA Ag I k
 split at h
 ·rename_i x xs M4
  obtain⟨⟨q,he⟩,hx⟩:=Nq M4
  revert h;refine Ai λ_ hgu h=>?_
  (revert h;refine AO λc1 c2=>?_;subst c1;subst c2)
  obtain⟨Gx,hl⟩:=of_decide_eq_true (AI hgu)
  subst he Gx
  refine wpAny_Call_ofName (Iw T I Ag hg ho T.len (Ob rfl (CF I hx λl' z=>?_)))
  revert z;refine DO λl its Ar gl hp V=>?_;obtain rfl:=Ar
  have e:xs.length=its.size:=V.length
  refine call_len_list hp.list (by unfold Bg at hl;omega) ?_
  rw[<-e]
  exact k _ _ _ (.toks _) (I.toks _) .int
 ·refine AL h λ_ hn h2=>?_
  refine BQ h2 λu Aw hu h3=>?_
  dsimp only at h3
  split at h3
  ·rename_i Gx
   refine AL h3 λm hm h4=>?_
   refine AL h4 λ_ hl h5=>?_
   (revert h5;refine AO λc1 c2=>?_;subst c1;subst c2)
   subst Gx
   have hl:=of_decide_eq_true (AI hl)
   refine wpAny_Call_ofName (Iw T I Ag hg ho T.len (Ob (AI hn) ((hr.e _ _ _ _ _ hu).then hA Ag I (.refl ..) λAv Ad u' Au An _ V=>?_)))
   cases V with
   |@list xs l vs m g W=>
    (revert hm;refine As λc0=>?_;subst c0)
    have e:xs.length=vs.size:=W.length
    refine call_len_list (An.lst g) (by unfold Bg at hl;omega) ?_
    rw[<-e]
    exact k _ _ _ (Au.trans (.toks _)) (An.toks _) .int
   |str=>
    (revert hm;refine As λc0=>?_;subst c0)
    exact P.len_str (by unfold Bg at hl;omega) (k _ _ _ (Au.trans (.toks _)) (An.toks _) .int)
   |_=>exact Az hm
  ·refine AL h3 λxs Cn h4=>?_
   refine AL h4 λns CE h5=>?_
   split at h5
   ·rename_i Gx
    (revert h5;refine AO λc1 c2=>?_;subst c1;subst c2)
    subst Gx
    refine wpAny_Call_ofName (Iw T I Ag hg ho T.sum (Ob (AI hn) ((hr.e _ _ _ _ _ hu).then hA Ag I (.refl ..) λAv Ad u' Au An _ V=>?_)))
    refine EW (VR.isList Cn V) λl vs m B2 g W=>?_;obtain rfl:=B2
    have B:=QE CE W
    obtain⟨ys,rfl⟩:=(show AllInts vs from B.allInts).items
    refine wpAny_with_toks An.stat.tok (sum_intListG hA.1 (An.lst g) λh' tk t' hk C1=>?_)
    rw[preSum_eq,List.take_of_length_le (by simp),<-nums_intItems,B.numsOf]
    obtain⟨A8,Ax⟩:=Hj An (tk:=tk) C1 hk
    exact k _ _ _ (Au.trans A8) Ax .int
   ·rename_i h1 h2
    split at h5
    ·exact Az h5
    ·rename_i i is
     (revert h5;refine AO λc1 c2=>?_;subst c1;subst c2)
     have Gx:f="min":=by
      unfold Jn at hf
      simp only[Bool.or_eq_true,beq_iff_eq] at hf
      rcases hf with(hf|hf)|hf
      ·exact absurd hf (by assumption)
      ·exact absurd hf (by assumption)
      ·exact hf
     subst Gx
     refine wpAny_Call_ofName (Iw T I Ag hg ho T.min (Ob (AI hn) ((hr.e _ _ _ _ _ hu).then hA Ag I (.refl ..) λAv Ad u' Au An _ V=>?_)))
     refine EW (VR.isList Cn V) λl vs m B2 g W=>?_;obtain rfl:=B2
     have B:=QE CE W
     obtain⟨ys,rfl⟩:=(show AllInts vs from B.allInts).items
     have hz:0<ys.size:=by
      have:=B.length
      simp[intItems] at this
      exact Ac 0x16c010215b4121101 Aa this
     refine wpAny_with_toks An.stat.tok (min_intList hA.1 (An.lst g) hz λv h' tk hv hk C1=>?_)
     obtain⟨t,rfl⟩:=intItems_at hv
     obtain⟨h1,h2⟩:=argBest_lt (numAt ys) (ys.size - 1)
     have q:=B.numsOf
     rw[nums_intItems] at q
     obtain⟨A8,Ax⟩:=Hj An (tk:=tk) C1 hk
     have e:numAt ys (argBest (λi j=>decide (numAt ys i<numAt ys j)) (ys.size - 1))=is.foldl min i:=by
      obtain⟨m1,m2⟩:=mG is i
      refine Int.le_antisymm ?_ (m2 _ ?_)
      ·rw[<-q] at m1
       refine Ak (mem_getD m1) λj hj ej=>?_
       rw[List.length_map,Array.length_toList] at hj
       rw[<-ej,<-numAt_eq];exact h2 j (by exact Ap 0x14c112116a012114a4121101 Aa hj Bl)
      ·rw[<-q,numAt_eq];exact getD_mem (by rw[List.length_map,Array.length_toList];exact Ap 0x16c112114a012114b1141201 Aa h1 (Nat.sub_add_cancel (Ah 0x14c011216a0102 Aa hz)))
     rw[e]
     exact k _ _ _ (Au.trans A8) Ax .int
theorem VRs.erase(k:Nat)(q:VRs G xs vs):VRs G (xs.eraseIdx k) (vs.eraseIdx k):=
 q.ind (P:= λxs vs=>∀k,VRs G (xs.eraseIdx k) (vs.eraseIdx k)) (λ_=>.nil) (λ_ _ _ _ a b i k=>Nat.rec b (λk _=>.cons a (i k)) k) k
theorem VRs.take(k:Nat)(q:VRs G xs vs):VRs G (xs.take k) (vs.take k):=
 q.ind (P:= λxs vs=>∀k,VRs G (xs.take k) (vs.take k)) (λk=>Nat.rec .nil (λ_ _=>.nil) k) (λ_ _ _ _ a _ i k=>Nat.rec .nil (λk _=>.cons a (i k)) k) k
theorem VRs.drop(k:Nat)(q:VRs G xs vs):VRs G (xs.drop k) (vs.drop k):=
 q.ind (P:= λxs vs=>∀k,VRs G (xs.drop k) (vs.drop k)) (λk=>Nat.rec .nil (λ_ _=>.nil) k) (λ_ _ _ _ a b i k=>Nat.rec (.cons a b) (λk _=>i k) k) k
theorem LP{l:Addr}{its:Array Value}(z:h.get? l=some {cls:=.type "list",data:=.seq its n})(f:Array Value->Array Value):PL (h.update l (Obj.mapSeq f)) l (f its):=⟨_,Heap.get?_update_self _ z rfl⟩
theorem Uf(its:Array Value)(k:Nat)(h:k<its.size):(its.eraseIdxIfInBounds k).toList=its.toList.eraseIdx k:=by
 unfold Array.eraseIdxIfInBounds
 rw[dif_pos h,Array.toList_eraseIdx]
set_option tactic.hygienic true in
theorem Wq{m:Str}{vs:List AV}(h:Gd m xs vs=some (u,ys)):∃id,Slot "list" m id/\typeOf (.builtin id)=pure (.type "method_descriptor")/\
 ∀(A:Around) (G:Gh) (s:Shared) (l:Addr) (its:Array Value) (Ba:List Value) (Q:Value->Shared->Prop) (E:Value->Shared->Prop),PL s.heap l its->VRs G xs its.toList->VRs G vs Ba->
  (∀h' M3 u',Heap.SameBut l s.heap h'->PL h' l M3->VRs G ys M3.toList->VR G u u'->Q u' {s with heap:=h'})->wpAny (model prog w) A (call (.builtin id) (.ref l::Ba)) Q E s:=by
 revert h;refine Ai λ_ hl h=>?_
 have hl:xs.length<100000:=of_decide_eq_true (AI hl)
 have line:∀{its:Array Value} {G:Gh},VRs G xs its.toList->its.size<=sizeLine:= λ{its G} V=>by
  have e:xs.length=its.size:=V.length
  rw[<-e];exact Hp (Nat.le_of_lt hl)
 split at h
 ·rename_i hm
  revert h;refine Ai λv hv h=>?_
  (revert h;refine AO λc1 c2=>?_;subst c1;subst c2)
  have hv:=E2 hv
  subst hv hm
  refine⟨_,F.slot_list_append,F.type_list_append,λA G s l its Ba Q E hp V W k=>?_⟩
  obtain⟨j,z⟩:=hp
  cases W with
  |cons w₁ w₂=>
  cases w₂
  refine wpAny_call_entry F.slot_list_append ⟨_,z,rfl⟩ F.entry_list_append ?_ (F.args_list_append_2 _ _)
  show wpAny _ _ (updateSeq l (·.push _)>>= λ_=>ret .none) _ _ s
  refine wpAny_bind (wpAny_updateSeq z rfl (wpAny_pure ⟨.none,rfl,k _ _ _ (Heap.SameBut.update ..) (LP z _) ?_ .none⟩) (line V) ?_)
  ·rw[Array.toList_push];exact V.append (.cons w₁ .nil)
  ·rw[Array.size_push];have:=line V;exact Ah 0x14c4121000000734120114a10000007301 Aa this
 ·split at h
  ·rename_i hm
   split at h
   ·revert h;refine Ai λv hv h=>?_
    (revert h;refine AO λc1 c2=>?_;subst c1;subst c2)
    subst hm
    refine⟨_,F.slot_list_pop,F.type_list_pop,λA G s l its Ba Q E hp V W k=>?_⟩
    obtain⟨j,z⟩:=hp
    cases W
    have e:xs.length=its.size:=V.length
    refine Ak (V.get hv) λv' H7 V'=>?_
    rw[e] at H7
    have D4:=(List.getElem?_eq_some_iff.mp H7).1
    refine call_meets F.slot_list_pop ⟨_,z,rfl⟩ F.entry_list_pop (F.args_list_pop_1 _) (MeetsSeq.list_pop_last l _ j v' (by simpa using H7) (line V)) ⟨z,k _ _ _ (Heap.SameBut.update ..) (LP z _) ?_ V'⟩
    rw[Uf _ _ (by simpa using D4),<-e];exact V.erase _
   ·rename_i a r'
    revert h;refine Ai λ_ hr' h=>?_
    revert h;refine Ai λi hi h=>?_
    revert h;refine Ai λ_ h0 h=>?_
    revert h;refine Ai λv hv h=>?_
    (revert h;refine AO λc1 c2=>?_;subst c1;subst c2)
    subst hm
    have h0:=of_decide_eq_true (AI h0)
    obtain rfl:=List.isEmpty_iff.mp (AI hr')
    refine⟨_,F.slot_list_pop,F.type_list_pop,λA G s l its Ba Q E hp V W k=>?_⟩
    obtain⟨j,z⟩:=hp
    cases W with
    |cons w₁ w₂=>
    cases w₂
    obtain⟨t,rfl⟩:=VR.isInt hi w₁
    have e:xs.length=its.size:=V.length
    refine Ak (V.get hv) λv' H7 V'=>?_
    have D4:=(List.getElem?_eq_some_iff.mp hv).1
    refine call_meets F.slot_list_pop ⟨_,z,rfl⟩ F.entry_list_pop (F.args_list_pop_2 _ _) (MeetsSeq.list_pop_at l _ j i t i.toNat v' ?_ (P6 h0 D4 e) (by simpa using H7) (line V)) ⟨z,k _ _ _ (Heap.SameBut.update ..) (LP z _) ?_ V'⟩
    ·unfold Builtin.List.listFitsIndex
     simp only[Bool.and_eq_true,decide_eq_true_eq];omega
    ·rw[Uf _ _ (by exact Ap 0x16c112116a012114b1101 Aa D4 e)];exact V.erase _
  ·revert h;refine Ai λ_ hm h=>?_
   revert h;refine Ai λp hp h=>?_
   revert h;refine Ai λi hi h=>?_
   revert h;refine Ai λ_ h0 h=>?_
   (revert h;refine AO λc1 c2=>?_;subst c1;subst c2)
   obtain⟨h0,h1⟩:=of_decide_eq_true (AI h0)
   obtain rfl:=of_decide_eq_true (AI hm)
   obtain rfl:=LH hp
   refine⟨_,F.slot_list_insert,F.type_list_insert,λA G s l its Ba Q E hp V W k=>?_⟩
   obtain⟨j,z⟩:=hp
   cases W with
   |cons w₁ w₂=>
   cases w₂ with
   |cons w₂ w₃=>
   cases w₃
   obtain⟨t,rfl⟩:=VR.isInt hi w₁
   have e:xs.length=its.size:=V.length
   refine call_meets F.slot_list_insert ⟨_,z,rfl⟩ F.entry_list_insert (F.args_list_insert_3 _ _ _) (AutoSeq1.list_insert_list_int_val_1 l _ j i t _ ?_ (line V)) ⟨z,k _ _ _ (Heap.SameBut.update ..) (LP z _) ?_ .none⟩
   ·unfold Builtin.List.listFitsIndex
    simp only[Bool.not_eq_true',Bool.not_eq_false,Bool.and_eq_true,decide_eq_true_eq];omega
   ·have e2:(if i<0 then(i+((its.size:Nat):Int)).toNat else min i.toNat its.size)=i.toNat:=by rw[if_neg (by exact EX 0x13c020110a0102 Aa h0)];exact Bm (λA6 Af=>Nat.le_antisymm (Ac 0x14c110114b1101 Aa Af) (Ac 0x14c011115b1101 Aa Af)) (λA6 Af=>HR (λAS Am=>Nat.le_antisymm (Ac 0x14c110114a1101 Aa (Nat.min_le_left _ _)) (Zx 0x14c110114b213110a7310115b211110b01701 Aa e h1 Af Am)) (λAS Am=>Nat.le_antisymm (Ac 0x14c110114a1101 Aa (Nat.min_le_left _ _)) (Ac 0x14c110114b0201 Aa Am)))
    show VRs G _ ((its.extract 0 (if i<0 then(i+((its.size:Nat):Int)).toNat else min i.toNat its.size)).push _++its.extract (if i<0 then(i+((its.size:Nat):Int)).toNat else min i.toNat its.size)).toList
    rw[e2]
    have e3:∀y:Value,((its.extract 0 i.toNat).push y++its.extract i.toNat).toList=its.toList.take i.toNat++y::its.toList.drop i.toNat:= λy=>(congrArg Array.toList (kl_ins_eq its.toList i.toNat y)).trans rfl
    rw[e3]
    exact(V.take _).append (.cons w₂ (V.drop _))
theorem Hv:∀{es:List PySem.Expr} {ρ:R} {q:List AV×R},BY r sc es ρ=some q->(backTo pos (starEach es env)).all (λx=> !x.1)=true/\(backTo pos (starEach es env)).any (·.1)=false:=by
 intro Al
 induction Al with
 |nil=>
  intro _ _ _
  exact⟨rfl,rfl⟩
 |cons e es zih=>
  intro _ _ h
  revert h;refine Ai λ_ hn h=>?_
  revert h;refine Ai λ_ _ h=>?_
  refine AL h λ_ hs _=>?_
  obtain⟨h1,h2⟩:=zih hs
  rw[D7 (AI hn)]
  exact⟨h1,h2⟩
theorem IE{Q:Args->Shared->Prop}(hp:(backTo pos (starEach es env)).all (λx=> !x.1)=true)(h:wpAny M A (spliced (backTo pos (starEach es env))) (λvs Ad=>Q ⟨vs,[]⟩ Ad) E s):
 wpAny M A (evalArgs fv true (backTo pos (starEach es env)) []) Q E s:=by
 generalize backTo pos (starEach es env)=l at hp h ⊢
 cases l with
 |nil=>
  unfold evalArgs
  show wpAny M A (spliced []>>= _) Q E s
  exact wpAny_bind (wpAny_mono h (λvs Ad Cd=>wpAny_bind (wpAny_pure (wpAny_holding (wpAny_bind (wpAny_pure (wpAny_bind (wpAny_pure (wpAny_pure Cd)))))))) λ_ _ e=>e)
 |cons p l=>
  obtain⟨st,t⟩:=p
  cases st with
  |true=>cases hp
  |false=>exact evalArgs_kw rfl (wpAny_mono h (λvs Ad Cd=>wpAny_evalAll_nil Cd) λ_ _ e=>e)
theorem Ny{o:PySem.Expr}{m:Str}{q:Value->Shared->Prop}{T id:String}(hb:attributeBase o m env (eval o env)=eval o env)(hl:(ap.endLine==pos.line)=true)(DK:args.length<=5)
 (hp:(backTo pos (starEach args env)).all (λx=> !x.1)=true/\(backTo pos (starEach args env)).any (·.1)=false) (pa:PlainAttrs T) (HF:Slot T m id) (FK:typeOf (.builtin id)=pure (.type "method_descriptor"))
 (h:wpAny (model prog w) A (eval o env) (λov Ad=>(Ad.TypeIs ov T/\(∀a,ov=.ref a->∃ob,Ad.heap.get? a=some ob/\ob.dict=none))/\
  wpAny (model prog w) A (spliced (backTo pos (starEach args env))) (λvs A4=>wpAny (model prog w) A (call (.builtin id) (ov::vs)) Q E A4) E Ad) E s):wpAny (model prog w) A (eval (.Call (.Attribute o m ap) args [] pos) env) Q E s:=by
 refine wpAny_Call_method hb ?_ hl pa HF FK (wpAny_mono h (λov Ad Cd=>⟨Cd.1.1,Cd.1.2,callWith_builtin hp.2 (IE hp.1 Cd.2)⟩) λ_ _ e=>e)
 rw[hp.1]
 exact(decide_eq_true (show args.length+0+0<30 from Ah 0x16c1e234024020114a5201 Aa DK):)
theorem d8{ns:List Str}(e:HM xs=some ns)(q:VRs G xs vs):StrsAre vs ns:=by
 refine q.ind (P:= λxs vs=>∀ns,HM xs=some ns->StrsAre vs ns) (λ_ e=>Option.some.inj e▸.nil) (λ_ _ _ _ a _ ih _ e=>?_) ns e
 revert e;refine Ai λi hi e=>?_
 revert e;refine Ai λis hs e=>?_
 obtain⟨t,rfl⟩:=VR.isStr hi a
 exact Option.some.inj e▸.cons _ _ (ih _ hs)
set_option tactic.hygienic true in
theorem TJ(hr:Bd prog w c n r)(hA:OkA A n)(Ag:Cu c sc env){m:Str}{o:AV}(h:valMeth r sc m o args ρ=some (u,ρ')):((backTo pos (starEach args env)).all (λx=> !x.1)=true/\(backTo pos (starEach args env)).any (·.1)=false)/\
 ∃T id,PlainAttrs T/\Slot T m id/\typeOf (.builtin id)=pure (.type "method_descriptor")/\∀(G:Gh) (s:Shared) (o':Value) (Q:Value->Shared->Prop),Inv c G s env ρ->VR G o o'->
  (∀G' s' u',Nx c ρ G s ρ' G' s'->Inv c G' s' env ρ'->VR G' u u'->Q u' s')->
  (s.TypeIs o' T/\(∀a,o'=.ref a->∃ob,s.heap.get? a=some ob/\ob.dict=none))/\wpAny (model prog w) A (spliced (backTo pos (starEach args env))) (λvs A4=>wpAny (model prog w) A (call (.builtin id) (o'::vs)) Q E A4) E s:=by
 unfold valMeth at h
 split at h
 ·rename_i hm
  revert h;refine Ai λx hx h=>?_
  revert h;refine Ai λp hp h=>?_
  revert h;refine Ai λy hy h=>?_
  revert h;refine Ai λz hz h=>?_
  revert h;refine Ai λ_ hg h=>?_
  (revert h;refine AO λc1 c2=>?_;subst c1;subst c2)
  refine DG (of_decide_eq_true (AI hg)) λg1 g2 g3=>?_
  refine Ak (CP (f:=AV.str?) hy) λFv p9 tP=>?_
  refine Ak (CP (f:=AV.str?) hz) λI9 pP M1=>?_
  obtain⟨a,b⟩:=p
  refine DS (L7 p9) λOZ qD JE B2 Xq=>?_;obtain rfl:=B2
  refine DS (L7 pP) λH5 rA sP B2 IB=>?_;obtain rfl:=B2
  obtain rfl:=LH hp
  rw[MU tP] at Xq
  rw[MU M1] at IB
  have HE:OZ=.str y:=by cases OZ<;>cases Xq;rfl
  have I7:H5=.str z:=by cases H5<;>cases IB;rfl
  subst HE I7 hm
  refine⟨⟨rfl,rfl⟩,"str",_,F.plainAttrs_str,F.slot_str_replace,F.type_str_replace,λG s o' Q I V k=>?_⟩
  obtain⟨t,rfl⟩:=VR.isStr hx V
  refine⟨⟨typeIs_str _ _ _,λa e=>nomatch e⟩,?_⟩
  refine spliced_cons (wpAny_Constant_str (k:=qD) (pos:=JE) (spliced_cons (wpAny_Constant_str (k:=rA) (pos:=sP) (spliced_nil ?_))))
  have tk:=I.stat.tok
  refine wpAny_with_toks (n:=1) (Nat.succ_pos _) (SC.replaceW (by show s.toks≠0;exact λBk=>Ah 0x16a010214b0201 Aa tk Bk) (by show s.toks+1≠0;exact λBk=>Ah 0x16a010214b0241201 Aa tk Bk) (by show s.toks≠s.toks+1;exact λBk=>Ah 0x15b4120101 Aa Bk) g3 (by exact Ah 0x14c100000630114a3e83301 Aa g1) (by exact Ah 0x14ce20114aa201 Aa g2) λt' k' Dt=>k _ _ _ (.toks k') (I.toks k' Dt) .str)
 ·revert h;refine Bv λvs Aw B0 h=>?_
  revert h;refine Ai λu' hu h=>?_
  (revert h;refine AO λc1 c2=>?_;subst c1;subst c2)
  refine⟨Hv B0,?_⟩
  cases o with
  |str x=>
   revert hu;refine Ai λ_ hm hu=>?_
   revert hu;refine Ai λa ha hu=>?_
   revert hu;refine Ai λxs Cn hu=>?_
   revert hu;refine Ai λss rO hu=>?_
   revert hu;refine Ai λ_ hg hu=>?_
   (revert hu;refine As λc0=>?_;subst c0)
   obtain⟨hm,h0⟩:=of_decide_eq_true (AI hm)
   have hg:=of_decide_eq_true (AI hg)
   have ha:=E2 ha
   subst hm ha
   refine⟨"str",_,F.plainAttrs_str,F.slot_str_join,F.type_str_join,λG s o' Q I V k=>?_⟩
   cases V
   refine⟨⟨typeIs_str _ _ _,λa e=>nomatch e⟩,EC hr hA Ag B0 I (.refl ..) λAv Ad Ba Au An _ Bj=>?_⟩
   cases Bj with
   |cons w₁ w₂=>
   cases w₂
   refine EW (VR.isList Cn w₁) λl its j B2 g W=>?_;obtain rfl:=B2
   refine wpAny_with_toks An.stat.tok (join_list (An.lst g) (d8 rO W) ?_ λt' k' Dt=>k _ _ _ (Au.trans (.toks k')) (An.toks k' Dt) .str)
   rw[h0,Nat.mul_zero,Nat.add_zero]
   exact Nat.le_trans hg (by decide)
  |list xs=>
   revert hu;refine Ai λ_ hm hu=>?_
   revert hu;refine Ai λa ha hu=>?_
   revert hu;refine Ai λi hi hu=>?_
   revert hu;refine Ai λns CE hu=>?_
   (revert hu;refine As λc0=>?_;subst c0)
   have hm:=of_decide_eq_true (AI hm)
   have ha:=E2 ha
   subst hm ha
   refine⟨"list",_,F.plainAttrs_list,F.slot_list_count,F.type_list_count,λG s o' Q I V k=>?_⟩
   refine EW (VR.isList rfl V) λl its j B2 g W=>?_;obtain rfl:=B2
   refine⟨⟨⟨_,I.fro _ _ g,rfl⟩,λa e=>by(injection e with c0;subst c0);exact⟨_,I.fro _ _ g,rfl⟩⟩,EC hr hA Ag B0 I (.refl ..) λAv Ad Ba Au An B5 Bj=>?_⟩
   cases Bj with
   |cons w₁ w₂=>
   cases w₂
   obtain⟨t,rfl⟩:=VR.isInt hi w₁
   exact count_list_ints (vs:=its.toList) (by simpa using An.lst (B5 _ _ g)) (QE CE W) (k _ _ _ (Au.trans (.toks _)) (An.toks _) .int)
  |_=>exact Az hu
theorem Nb(I:Inv c G s env ρ){l:Addr}(hx:ρ.get x=some v)(gl:G l=some (.own x k))(hs:Heap.SameBut l s.heap h')(hl:∃o,h'.get? l=some o)(ox:∀v',OR c G s.heap x v v'->OR c G h' x u v')(hp:0<tk):
 Nx c ρ G s (ρ.set x u) G {s with heap:=h',toks:=tk}/\Inv c G {s with heap:=h',toks:=tk} env (ρ.set x u):=by
 have nl:∀{b r},G b=some r->(∀j,r≠.own x j)->b≠l:= λe h q=>by subst q;rw[gl] at e;(revert e;refine As λc0=>?_;subst c0);exact h k rfl
 have nf:∀(o:Obj) (j:Nat),AP.fro o≠.own x j:= λ_ _ h=>AP.noConfusion h
 have nb:∀{b o},c.base.get? b=some o->b≠l:= λ{b o} e q=>by
  subst q
  rcases I.stat.old _ _ e with z|z
  ·rw[gl] at z;exact Ef z
  ·rw[gl] at z;(have ce:=z.1;revert ce;refine As λc0=>?_;injection c0)
 have lv:∀b o,s.heap.get? b=some o->∃o',h'.get? b=some o':= λb o e=>by
  by_cases q:b=l
  ·subst q;exact hl
  ·exact⟨o,(hs.2 b q).trans e⟩
 refine⟨⟨.refl _,λ_ _ _ e=>e,λ_ _ _ e _=>e,λb o e g _=>(hs.2 b λq=>by rw[q,gl] at g;exact Ef g).trans e,lv,λ_ _ e=>e,rfl,λy d=>R.dom_set _ _ _ _ d⟩,
  I.turn hx ⟨λb o e t=>(hs.2 b (nb e)).trans (I.stat.keep b o e t),I.stat.old,λt m=>⟨(I.stat.tab t m).1.imp λps q=>⟨(hs.2 _ (nb (I.stat.tab t m).2)).trans q.1,q.2⟩,(I.stat.tab t m).2⟩,I.stat.bare,hp⟩
   (λ_ _ e _=>e) (λ_ _ _ e=>e) (λa r e=>(I.low a r e).elim (lv a)) (λa o e=>(hs.2 a (nl e (nf o))).trans (I.fro a o e)) (λa r o g h e=>(hs.2 a (nl g h)).trans e) (λ_ _ e=>e) ox⟩
theorem Zv(I:Inv c G s env ρ){l:Addr}{its:Array Value}(hx:ρ.get x=some (.ol xs))(gl:G l=some (.own x 0))(hs:Heap.SameBut l s.heap h')(hp:PL h' l its)(V:VRs G ys its.toList):
 Nx c ρ G s (ρ.set x (.ol ys)) G {s with heap:=h'}/\Inv c G {s with heap:=h'} env (ρ.set x (.ol ys)):=
 Nb I hx gl hs (hp.elim λ_ e=>⟨_,e⟩) (λv' z=>by
  revert z;refine DO λl' _ Ar g _ _=>?_;obtain rfl:=Ar
  obtain rfl:=I.uniq _ _ _ _ gl g
  exact⟨l,its,rfl,gl,hp,V⟩) I.stat.tok
theorem PD{p:Pos}{m:Str}:attributeBase (.Name x p) m env (eval (.Name x p) env)=eval (.Name x p) env:=rfl
theorem eY{f:PySem.Expr}{q:PySem.Expr×Str×Pos}{a k p m:_}(h:IW f=some q):attributeBase (.Call f a k p) m env (eval (.Call f a k p) env)=eval (.Call f a k p) env:=by
 have e:f=.Attribute q.1 q.2.1 q.2.2:=(FD h:)
 subst e;rfl
set_option tactic.hygienic true in
theorem SE.varMeth(T:Bx c top)(hr:Bd prog w c n r){m:Str}{p:Pos}(hl:(ap.endLine==pos.line)=true)(DK:args.length<=5)(vL:∀o,Ca sc x ρ=some o->o.lex?=Option.none)(h:I3 r top sc x m args ρ=some (v,ρ')):
 SE prog w c n sc (.Call (.Attribute (.Name x p) m ap) args [] pos) ρ v ρ':=by
 revert h;refine Ai λo hx h=>?_
 intro A env G s Q E hA Ag I k
 split at h
 ·rename_i O3 ho
  obtain rfl:=EK ho
  revert h;refine Bv λvs Aw B0 h=>?_
  revert h;refine Ai λo' DZ h=>?_
  revert h;refine Ai λxs Cn h=>?_
  revert h;refine Bv λu ys hu h=>?_
  (revert h;refine AO λc1 c2=>?_;subst c1;subst c2)
  obtain rfl:=EK Cn
  refine Cf (Wq (prog:=prog) (w:=w) hu) λid HF FK hm=>?_
  refine Ny (q:= λ_ _=>True) PD hl DK (Hv B0) F.plainAttrs_list HF FK (CF I hx λl' z=>?_)
  revert z;refine DO λl _ Ar gl Fy _=>?_;obtain rfl:=Ar;obtain⟨j,hj⟩:=Fy
  refine⟨⟨⟨_,hj,rfl⟩,λa e=>by(injection e with c0;subst c0);exact⟨_,hj,rfl⟩⟩,EC hr hA Ag B0 I (.refl ..) λAv Ad Ba Au An _ Bj=>?_⟩
  refine Kn (La I Au An gl DZ) λJz its hp W=>?_
  refine hm A Av Ad l its Ba Q E hp W Bj λh' M3 u' hs JD W' U=>?_
  obtain⟨A8,Ax⟩:=Zv An DZ Jz hs JD W'
  exact k _ _ _ (Au.trans A8) Ax U
 ·rw[vL o hx] at h
  revert h;refine Ai λ_ hf h=>?_
  refine Wb (TJ (E:=E) hr hA Ag (pos:=pos) h) λhp T' id pa HF FK hm=>?_
  refine Ny (q:= λ_ _=>True) PD hl DK hp pa HF FK (CF I hx λv' z=>hm G s v' Q I (z.free (AI hf)) k)
theorem SE.valMeth(hr:Bd prog w c n r){o:PySem.Expr}{m:Str}{o':AV}(hl:(ap.endLine==pos.line)=true)(DK:args.length<=5)(hb:∀env,attributeBase o m env (eval o env)=eval o env)(ho:SE prog w c n sc o AH o' ρ)(h:valMeth r sc m o' args ρ=some (v,ρ')):
 SE prog w c n sc (.Call (.Attribute o m ap) args [] pos) AH v ρ':=by
 intro A env G s Q E hA Ag I k
 refine Wb (TJ (E:=E) hr hA Ag (pos:=pos) h) λhp T' id pa HF FK hm=>?_
 refine Ny (q:= λ_ _=>True) (hb env) hl DK hp pa HF FK (ho A env G s _ _ hA Ag I λAv Ad v' Au An Bj=>hm Av Ad v' Q An Bj λAY A4 u' A8 Ax U=>k _ _ _ (Au.trans A8) Ax U)
theorem QP(h:ME e=some es):∃k p,e=.Tuple es k p:=by
 exact(FD h:)
theorem WP(Ag:env.scope=sc):∀{ts:List PySem.Expr} {vs:List AV} {Ba:List Value} {ρ ρ':R} {s:Shared} {Q:Unit->Shared->Prop},L8 sc ts vs ρ=some ρ'->Inv c G s env ρ->Nx c AH AC Ao ρ G s->VRs G vs Ba->
 (∀s',Nx c AH AC Ao ρ' G s'->Inv c G s' env ρ'->Q () s')->wpAny (model prog w) A (assignInOrder ((assignEach ts env).map (·.2)) Ba) Q E s:=by
 intro ts
 induction ts with
 |nil=>
  intro vs Ba ρ ρ' s Q h I N V k
  cases V with
  |nil=>(revert h;refine As λc0=>?_;subst c0);exact wpAny_assignInOrder_none (k _ N I)
  |cons=>exact nomatch h
 |cons t ts ih=>
  intro vs Ba ρ ρ' s Q h I N V k
  cases V with
  |nil=>exact nomatch h
  |cons a b=>
   revert h;refine Ai λx hx h=>?_
   refine AL h λAw hb h2=>?_
   obtain⟨p,rfl⟩:=EB hx
   exact wpAny_assignInOrder_more (wpAny_assign_Name (GG I N Ag hb (I.gr _ _) a.or λs' N' I'=>ih h2 I' N' b k))
theorem Ua{vs:List AV}(h:L8 sc ts vs ρ=some ρ'):(assignEach ts env).length=vs.length/\List.findIdx? (λx:Bool×(Value->Sem Unit)=>x.1) (assignEach ts env)=none:=by
 induction ts generalizing vs ρ with
 |nil=>
  cases vs with
  |nil=>exact⟨rfl,rfl⟩
  |cons=>cases h
 |cons t ts ih=>
  cases vs with
  |nil=>cases h
  |cons v vs=>
   revert h;refine Ai λx hx h=>?_
   refine AL h λAw hb h2=>?_
   obtain⟨p,rfl⟩:=EB hx
   obtain⟨h1,h2⟩:=ih h2
   refine⟨congrArg (· +1) h1,?_⟩
   show List.findIdx? (λx:Bool×(Value->Sem Unit)=>x.1) ((false,assign (.Name x p) env)::assignEach ts env)=none
   rw[List.findIdx?_cons,h2];rfl
theorem Tu(I:Inv c G s env ρ)(hx:Heap.ExtBut s.heap.objs.size s.heap h'):Nx c ρ G s ρ G {s with heap:=h'}/\Inv c G {s with heap:=h'} env ρ:=
 Hj I I.stat.tok λb o e=>hx b o (Nat.ne_of_lt (Heap.lt_size e)) e
set_option tactic.hygienic true in
theorem UM(hA:A.handled=none)(Ag:env.scope=sc)(h:BS sc t v ρ=some ρ')(I:Inv c G s env ρ)(N:Nx c AH AC Ao ρ G s)(V:VR G v v'){Q:Unit->Shared->Prop}
 (k:∀s',Nx c AH AC Ao ρ' G s'->Inv c G s' env ρ'->Q () s'):wpAny (model prog w) A (assign t env v') Q E s:=by
 unfold BS at h
 split at h
 ·rename_i x hx
  obtain⟨p,rfl⟩:=EB hx
  exact wpAny_assign_Name (GG I N Ag h (I.gr _ _) V.or k)
 ·refine AL h λts ht h1=>?_
  refine AL h1 λvs hv h2=>?_
  refine EU (QP ht) λ_ _ Ar=>?_;obtain rfl:=Ar
  refine EW (VR.isTup hv V) λa its m B2 g W=>?_;obtain rfl:=B2
  obtain⟨z1,z2⟩:=Ua (env:=env) h2
  refine wpAny_assign_Tuple hA ⟨_,I.fro _ _ g,rfl,m,rfl⟩ (z1.trans W.length) z2 λh' hx=>?_
  obtain⟨A8,Ax⟩:=Tu I hx
  exact WP Ag h2 Ax (N.trans A8) W k
structure Fu (c:Cx) (W:Addr->Prop) (G:Gh) (s:Shared) (G':Gh) (s':Shared):Prop where
 le:G.Le G'
 keep:∀a o,W a->s.heap.get? a=some o->G a=none->¬c.isTab a->s'.heap.get? a=some o/\G' a=none
theorem Nx.fu(N:Nx c ρ G s ρ' G' s'):Fu c W G s G' s':=⟨N.le,λa o _ e g t=>⟨N.keep a o e g t,N.new a o e g⟩⟩
theorem Fu.refl:Fu c W G s G s:=⟨.refl _,λ_ _ _ e g _=>⟨e,g⟩⟩
theorem Fu.trans(a:Fu c W G s G' s')(b:Fu c W G' s' CD s''):Fu c W G s CD s'':=
 ⟨a.le.trans b.le,λx o w e g t=>(a.keep x o w e g t).elim λe' g'=>b.keep x o w e' g' t⟩
section
variable (prog:Program) (w:World) (c:Cx)
noncomputable def Tr(F:Shared->Prop)(ρ:R)(G:Gh)(s:Shared)(ρ':R)(G':Gh)(s':Shared):Prop:=∀AH AC Ao,F Ao->Nx c AH AC Ao ρ G s->Nx c AH AC Ao ρ' G' s'
noncomputable def It(F:Shared->Prop)(W:Addr->Prop)(I:Addr):List AV->Gh->Shared->Prop
 |[],G,s=>∀(A:Around) (ρ':R) (G':Gh) (s':Shared) (env:Env) (Q:Option Value->Shared->Prop) (E:Value->Shared->Prop),A.handled=none->A.depth<=900->A.units<=9000->Fu c W G s G' s'->Inv c G' s' env ρ'->
  (∀s'',Tr c F ρ' G' s' ρ' G' s''->(∀b o,¬W b->s'.heap.get? b=some o->G' b=none->¬c.isTab b->s''.heap.get? b=some o)->Inv c G' s'' env ρ'->Q none s'')->wpAny (model prog w) A (pyNext (.ref I)) Q E s'
 |x::xs,G,s=>∀(A:Around) (sc:Scope) (t:PySem.Expr) (ρ' Aw:R) (G':Gh) (s':Shared) (env:Env) (Q:Unit->Shared->Prop) (E:Value->Shared->Prop),A.handled=none->A.depth<=900->A.units<=9000->env.scope=sc->Fu c W G s G' s'->Inv c G' s' env ρ'->BS sc t x ρ'=some Aw->
  (∀CD s'',Tr c F ρ' G' s' Aw CD s''->(∀b o,¬W b->s'.heap.get? b=some o->G' b=none->¬c.isTab b->s''.heap.get? b=some o/\CD b=none)->G'.Le CD->Inv c CD s'' env Aw->It F W I xs CD s''->Q () s'')->
  wpAny (model prog w) A (pyNext (.ref I)) (λr Ad=>∃v,r=some v/\wpAny (model prog w) A (letOwnedTupleGo t (.ref I) v) (λ_ A4=>wpAny (model prog w) A (assign t env v) Q E A4) E Ad) E s'
end
noncomputable def QV:List String:=["enumerate","zip","dict_itemiterator","dict_reverseitemiterator","odict_iterator","itertools.zip_longest","itertools.pairwise"]
theorem It.later{F:Shared->Prop}:∀{xs:List AV},It prog w c F W I xs G s->Fu c W G s G' s'->It prog w c F W I xs G' s':=by
 intro Al
 induction Al with
 |nil=>
  intro h N
  exact λA B8 AY A4 env Q E a b d A8 Ax k=>h A B8 AY A4 env Q E a b d (N.trans A8) Ax k
 |cons _ _ ih=>
  intro h N
  exact λA sc t B8 C2 AY A4 env Q E a b d e A8 Ax f k=>h A sc t B8 C2 AY A4 env Q E a b d e (N.trans A8) Ax f k
set_option tactic.hygienic true in
theorem Pn{T:String}{v:Value}{Q:Unit->Shared->Prop}(ho:s.heap.get? I=some o)(hc:o.cls=.type T)(hT:QV.contains T=false)(k:Q () s):wpAny (model prog w) A (letOwnedTupleGo t (.ref I) v) Q E s:=by
 unfold letOwnedTupleGo
 have go:wpAny (model prog w) A (do
  let(.ref r,.ref a):=(Value.ref I,v)|return
  let o <-load r
  match o.cls,o.data with
  |.type n,.fields vs=>
   if["enumerate","zip","dict_itemiterator","dict_reverseitemiterator","odict_iterator","itertools.zip_longest","itertools.pairwise"].contains n&&vs[0]? ==some (rawInt a) then
    rule "for.unpacks-the-owned-tuple"
    updateField r 0 .none
  |_,_=>pure ()) Q E s:=by
  cases v with
  |ref a=>
   refine wpAny_bind (wpAny_load ho ?_)
   rw[hc]
   generalize o.data=d
   cases d with
   |fields vs=>
    dsimp only
    rw[show(["enumerate","zip","dict_itemiterator","dict_reverseitemiterator","odict_iterator","itertools.zip_longest","itertools.pairwise"].contains T)=false from hT,Bool.false_and,if_neg Bool.false_ne_true]
    exact wpAny_pure k
   |_=>exact wpAny_pure k
  |_=>exact wpAny_pure k
 cases t<;>first|exact wpAny_pure k|exact go
theorem It.walks{m:Nat}{P:Nat->Value->Prop}{St:Nat->Heap->Prop}(WK:∀A:Around,A.handled=none->Walks prog w A I fp [I] m P St)(hb:c.base.get? I=none)
 (O8:∀j h,St j h->∃o T,h.get? I=some o/\o.cls=.type T/\QV.contains T=false):
 ∀(xs:List AV) (i:Nat) (G:Gh) (s:Shared),xs.length+i=m->St i s.heap->G I=none->(∀b∈fp,b=I∨∃o,G b=some (.fro o)/\s.heap.get? b=some o)->
  (∀(j:Nat) (x:AV) (v:Value),xs[j]? =some x->P (i+j) v->VR G x v)->It prog w c (λAo=>Ao.heap.get? I=none) (· =I) I xs G s:=by
 have frame:∀{i G s G' s' ρ' env},St i s.heap->G I=none->(∀b∈fp,b=I∨∃o,G b=some (.fro o)/\s.heap.get? b=some o)->Fu c (· =I) G s G' s'->Inv c G' s' env ρ'->St i s'.heap/\G' I=none:= λ{i G s G' s' ρ' env} hst g E7 N I'=>by
  have nt:¬c.isTab I:= λ⟨t,m,q⟩=>by
   have:=(I'.stat.tab t m).2
   rw[q,hb] at this;exact Az this
  refine Dc (O8 i _ hst) λoI _ eI _=>?_
  have kI:=N.keep I oI rfl eI g nt
  refine⟨(WK ⟨none,0,none,none,0⟩ rfl).frame i _ _ hst λb m o e=>?_,?_⟩
  ·rcases E7 b m with rfl|⟨o',g',e'⟩
   ·rw[e] at eI;(revert eI;refine As λc0=>?_;subst c0);exact kI.1
   ·rw[e] at e';(revert e';refine As λc0=>?_;subst c0);exact I'.fro _ _ (N.le _ _ g')
  ·exact kI.2
 intro xs
 induction xs with
 |nil=>
  intro i G s hl hst g E7 _ A ρ' G' s' env Q E hA _ _ N I' k
  obtain⟨H9,g'⟩:=frame hst g E7 N I'
  obtain rfl:i=m:=by simpa using hl
  refine wpAny_with_toks I'.stat.tok ((WK A hA).done s' _ _ H9 λh' tk hk ht=>k {s' with heap:=h',toks:=tk} (λAH AC Ao JG Gu=>?_) (λb o nb e _ _=>hk b o (λm=>nb (List.mem_singleton.mp m)) e) ?_)
  ·exact Gu.loose (W:=[I]) (λa m=>by rw[List.mem_singleton.mp m];exact JG) hk (λ_ _ e _=>e) rfl
  ·exact I'.loose (W:=[I]) (λa m=>by rw[List.mem_singleton.mp m];exact⟨g',hb⟩) hk I'.stat.bare ht
 |cons x xs ih=>
  intro i G s hl hst g E7 hV A sc t ρ' Aw G' s' env Q E hA h1 h2 Ag N I' ha k
  obtain⟨H9,g'⟩:=frame hst g E7 N I'
  refine wpAny_with_toks I'.stat.tok ((WK A hA).item i s' _ _ (by rw[List.length_cons] at hl;exact Ap 0x16c211114b2141141201 Aa hl) H9 λv h' tk hP Jy hk ht=>⟨v,rfl,?_⟩)
  refine GV (O8 _ _ Jy) λo T e hc hT=>?_
  have Ax:Inv c G' {s' with heap:=h',toks:=tk} env ρ':=I'.loose (W:=[I]) (λa m=>by rw[List.mem_singleton.mp m];exact⟨g',hb⟩) hk I'.stat.bare ht
  refine Pn (s:={s' with heap:=h',toks:=tk}) e hc hT (UM hA Ag ha Ax (.refl ..) ((hV 0 x v rfl hP).mono N.le) λAU AM Bf=>k G' AU (λAH AC Ao JG Gu=>?_) (λb o nb e g' t=>⟨AM.keep b o (hk b o (λm=>nb (List.mem_singleton.mp m)) e) g' t,g'⟩) (.refl _) Bf ?_)
  ·exact Nx.trans (Gu.loose (s'':={s' with heap:=h',toks:=tk}) (W:=[I]) (λa m=>by rw[List.mem_singleton.mp m];exact JG) hk (λ_ _ e _=>e) rfl) AM
  ·have OO:∀b∈fp,b=I∨∃o,G' b=some (.fro o)/\h'.get? b=some o:= λb m=>(E7 b m).imp id λ⟨o,g,_⟩=>⟨o,N.le _ _ g,Ax.fro _ _ (N.le _ _ g)⟩
   obtain⟨Sj,JJ⟩:=frame (s:={s' with heap:=h',toks:=tk}) Jy g' OO AM.fu Bf
   refine ih (i+1) G' AU (by rw[List.length_cons] at hl;exact Nat.le_antisymm (Ap 0x14c214412110114b2141141201 Aa hl) (Ap 0x14c441211012115b2141141201 Aa hl)) Sj JJ (λb m=>(OO b m).imp id λ⟨o,g,_⟩=>⟨o,g,Bf.fro _ _ g⟩) λj y u hj hu=>(hV (j+1) y u hj (by rw[<-Nat.add_assoc,Nat.add_right_comm];exact hu)).mono N.le
structure Tn (prog:Program) (w:World) (c:Cx) (G:Gh) (s:Shared) (I:Addr) (its:List AV):Prop where
 nor:G I=Option.none
 base:c.base.get? I=Option.none
 live:∃o,s.heap.get? I=some o
 it:It prog w c (λAo=>Ao.heap.get? I=Option.none) (· =I) I its G s
 self:∀(A:Around) (ρ':R) (G':Gh) (s':Shared) (env:Env) (Q:Value->Shared->Prop) (E:Value->Shared->Prop),A.handled=Option.none->Fu c (· =I) G s G' s'->Inv c G' s' env ρ'->Q (.ref I) s'->wpAny (model prog w) A (pyIter (.ref I)) Q E s'
theorem MG(I:Inv c G s env ρ){m:Nat}{P:Nat->Value->Prop}{St:Nat->Heap->Prop}(hf:o.isFreed=false)(W:∀A:Around,A.handled=none->Walks prog w A s.heap.objs.size fp [s.heap.objs.size] m P St)
 (O8:∀j h,St j h->∃o T,h.get? s.heap.objs.size=some o/\o.cls=.type T/\QV.contains T=false) (hst:St 0 (s.heap.push o)) (hl:its.length=m) (E7:∀b∈fp,b=s.heap.objs.size∨∃o,G b=some (.fro o)) (hV:∀(j:Nat) (x:AV) (v:Value),its[j]? =some x->P j v->VR G x v):
 Tn prog w c G {s with heap:=s.heap.push o} s.heap.objs.size its:=by
 have d:s.heap.get? s.heap.objs.size=none:=Heap.get?_none_of_le (Nat.le_refl _)
 have OB:∀b∈fp,b=s.heap.objs.size∨∃o',G b=some (.fro o')/\(s.heap.push o).get? b=some o':= λb m=>(E7 b m).imp id λ⟨o',g⟩=>⟨o',g,Heap.get?_push_of_some _ (I.fro _ _ g)⟩
 refine⟨I.fresh d,I.baseNone d,⟨_,Heap.get?_push_size _ hf⟩,It.walks W (I.baseNone d) O8 its 0 G _ hl hst (I.fresh d) OB λj x v h p=>hV j x v h (by rwa [Nat.zero_add] at p),λA ρ' G' s' AN Q E hA N I' k=>?_⟩
 refine(W A hA).self 0 s' Q E ((W A hA).frame 0 _ _ hst λb m o' e=>?_) k
 rcases OB b m with rfl|⟨OE,g',e'⟩
 ·exact(N.keep _ o' rfl e (I.fresh d) λ⟨t,m,q⟩=>by
   have:=(I'.stat.tab t m).2
   rw[q,I.baseNone d] at this;exact Az this).1
 ·have e:(s.heap.push o).get? b=some o':=e
  rw[e] at e';(revert e';refine As λc0=>?_;subst c0);exact I'.fro _ _ (N.le _ _ g')
theorem Th(x:Str)(j:Nat):(signsOf x)[j]? =(x.cps[j]?).map λc=>AV.str ⟨#[c]⟩:=by
 unfold signsOf
 rw[List.getElem?_map,Array.getElem?_toList]
theorem oK(m:Int)(k j:Nat)(x:AV)(h:((List.range k).map λ(i:Nat)=>AV.int (m+(i:Int)))[j]? =some x):x=.int (m+(j:Int)):=by
 rw[List.getElem?_map] at h
 refine Ak (Fg h) λi hi Ar=>?_;obtain rfl:=Ar
 obtain⟨_,rfl⟩:=List.getElem?_eq_some_iff.mp hi
 rw[List.getElem_range]
set_option tactic.hygienic true in
theorem PO(T:Bx c top)(hr:Bd prog w c n r)(hA:OkA A n)(Ag:Cu c sc env)(h:Gq r sc e ρ=some (its,ρ'))(I:Inv c G s env ρ)(N:Nx c AH AC Ao ρ G s)
 (k:∀G' s' a,Nx c AH AC Ao ρ' G' s'->Inv c G' s' env ρ'->G.Le G'->Ao.heap.get? a=none->Tn prog w c G' s' a its->Q (.ref a) s'):
 wpAny (model prog w) A (eval e env) (λx Ad=>wpAny (model prog w) A (pyIter x) Q E Ad) E s:=by
 unfold Gq at h
 split at h
 ·rename_i args hr'
  refine BQ h λvs Aw B0 h2=>?_
  refine AL h2 λis hi h3=>?_
  cases h3
  refine Ak (CP hr') λBB hc O9=>?_;obtain⟨f,args',AT,p⟩:=BB
  refine AL O9 λx hx vC=>?_
  refine AL vC λ_ hg hr4=>?_
  cases hr4
  obtain⟨hg,g4⟩:=Bool.and_eq_true_iff.mp (AI hg)
  obtain⟨hg,g3⟩:=Bool.and_eq_true_iff.mp hg
  obtain⟨g1,g2⟩:=Bool.and_eq_true_iff.mp hg
  have g2:x="range":=of_decide_eq_true g2
  obtain⟨q,hf⟩:=EB hx
  have he:e=.Call f args AT p:=by
   exact(FD hc:)
  have hk:AT=[]:=List.isEmpty_iff.mp g3
  subst he hf hk g2
  have CY:∀{Av:Gh} {Ad:Shared} {ra:Addr} {a b:Int} {t u v:Tok},Nx c AH AC Ao ρ' Av Ad->Inv c Av Ad env ρ'->G.Le Av->IsRange Ad.heap ra a b 1 t u v->(-1000<=a/\a<=1000)->(-1000<=b/\b<=1000)->its=((List.range (b - a).toNat).map λ(k:Nat)=>AV.int (a+(k:Int)))->
   wpAny (model prog w) A (pyIter (.ref ra)) Q E Ad:= λ{Av Ad ra a b t u v} Au An B5 hR ha hb hits=>by
   have d:Ad.heap.get? Ad.heap.objs.size=none:=Heap.get?_none_of_le (Nat.le_refl _)
   have hz:Builtin.Range.rangeSize a b 1=((b - a).toNat:Int):=by rw[rangeSize_one];split<;>omega
   refine wpAny_pyIter_range hR (small_one (by omega) (by omega) (by omega) (by omega)) (k _ _ _ (Au.trans (.grow _)) (An.grow _) B5 (Au.dead d) (MG An rfl (λA hA=>Walks.range hA _ a 1 (b - a).toNat) (λj h st=>⟨_,"range_iterator",st,rfl,by decide⟩) ?_ (by rw[hits];simp) (λb m=>.inl (List.mem_singleton.mp m)) λj x v hx hv=>?_))
   ·rw[hz]
    show IsRangeIter _ _ (a+((0:Nat):Int)*1) (((b - a).toNat:Int) - ((0:Nat):Int)) 1
    simp only[Int.natCast_zero,Int.zero_mul,Int.add_zero,Int.sub_zero]
    exact Heap.get?_push_size _ rfl
   ·obtain⟨t',rfl⟩:=hv
    rw[hits] at hx
    rw[oK a _ j x hx,Int.mul_one]
    exact .int
  refine wpAny_Call_ofName (Iw T I Ag g1 rfl T.range (PyProof.Rows.callWith_type (Hv B0).2 (IE (Hv B0).1 (EC hr hA Ag B0 I N λAv Ad Ba Au An B5 V=>?_))))
  unfold On at hi
  split at hi
  ·rename_i a ha
   revert hi;refine Ai λm hm hi=>?_
   revert hi;refine Ai λ_ hg hi=>?_
   cases hi
   have hg:=of_decide_eq_true (AI hg)
   rw[E2 ha] at V
   cases V with
   |cons w₁ w₂=>
   cases w₂
   obtain⟨t,rfl⟩:=VR.isInt hm w₁
   refine call_range_1 (CY (a:=0) (b:=m) (Au.trans ((Nx.grow _).trans (.toks _))) ((An.grow _).toks _) B5 (IsRange.new ..) (by exact⟨AE 0x10c0293e833 Aa,AE 0x10c3e83302 Aa⟩) hg (by rw[Int.sub_zero]))
  ·revert hi;refine Ai λp' JD hi=>?_
   revert hi;refine Ai λm hm hi=>?_
   revert hi;refine Ai λj hj hi=>?_
   revert hi;refine Ai λ_ hg hi=>?_
   cases hi
   have hg:=of_decide_eq_true (AI hg)
   rw[LH (a:=p'.1) (b:=p'.2) JD] at V
   cases V with
   |cons w₁ w₂=>
   cases w₂ with
   |cons w₂ w₃=>
   cases w₃
   obtain⟨t,rfl⟩:=VR.isInt hm w₁
   obtain⟨t',rfl⟩:=VR.isInt hj w₂
   exact call_range_2 (CY (a:=m) (b:=j) (Au.trans ((Nx.grow _).trans (.toks _))) ((An.grow _).toks _) B5 (IsRange.new ..) ⟨hg.1,hg.2.1⟩ ⟨hg.2.2.1,hg.2.2.2⟩ rfl)
 ·refine AL h λ_ _ h2=>?_
  refine BQ h2 λv Aw hv h3=>?_
  refine(hr.e _ _ _ _ _ hv).then hA Ag I N λAv Ad v' Au An B5 V=>?_
  dsimp only at h3
  have d:Ad.heap.get? Ad.heap.objs.size=none:=Heap.get?_none_of_le (Nat.le_refl _)
  cases V with
  |@list xs l vs m g W=>
   (revert h3;refine AO λc1 c2=>?_;subst c1;subst c2)
   have ne:l≠Ad.heap.objs.size:= λq=>by
    have:=An.fro _ _ g
    rw[q,d] at this;exact Az this
   refine wpAny_pyIter_list (An.lst g) (k _ _ _ (Au.trans (.grow _)) (An.grow _) B5 (Au.dead d) (MG An rfl (λA hA=>Walks.list hA _ l ne vs) (λj h st=>?_) ⟨⟨_,Heap.get?_push_size _ rfl,rfl,rfl⟩,(An.lst g).push _⟩ W.length (λb m=>?_) λj x v hx hv=>?_))
   ·obtain⟨⟨o,e,hc,_⟩,_⟩:=st
    exact⟨o,"list_iterator",e,hc,by decide⟩
   ·rcases List.mem_cons.mp m with rfl|m
    ·exact .inl rfl
    ·rcases List.mem_singleton.mp m with rfl
     exact .inr ⟨_,g⟩
   ·refine Ak (W.get hx) λu e V=>?_
    rw[Array.getElem?_toList,hv] at e
    (revert e;refine As λc0=>?_;subst c0);exact V
  |@str x t=>
   (revert h3;refine AO λc1 c2=>?_;subst c1;subst c2)
   have hx:∀(j:Nat) (y:AV) (v:Value),(signsOf x)[j]? =some y->SignAt x j v->VR Av y v:= λj y v hy hv=>by
    revert hv;refine Sy λch u e B2=>?_;obtain rfl:=B2
    rw[Th,e] at hy
    (revert hy;refine As λc0=>?_;subst c0);exact .str
   have hl:(signsOf x).length=x.cps.size:=by unfold signsOf;simp
   cases ha:x.cps.all (· <128) with
   |false=>
    exact wpAny_pyIter_wide ha (k _ _ _ (Au.trans (.grow _)) (An.grow _) B5 (Au.dead d) (MG An rfl (λA hA=>Walks.strWide hA _ x t) (λj h st=>let⟨o,e,hc,_⟩:=st;⟨o,"str_iterator",e,hc,by decide⟩) ⟨_,Heap.get?_push_size _ rfl,rfl,rfl⟩ hl (λb m=>.inl (List.mem_singleton.mp m)) hx))
   |true=>
    exact wpAny_pyIter_ascii ha (k _ _ _ (Au.trans (.grow _)) (An.grow _) B5 (Au.dead d) (MG An rfl (λA hA=>Walks.strAscii hA _ x t) (λj h st=>let⟨o,e,hc,_⟩:=st;⟨o,"str_ascii_iterator",e,hc,by decide⟩) ⟨_,Heap.get?_push_size _ rfl,rfl,rfl⟩ hl (λb m=>.inl (List.mem_singleton.mp m)) hx))
  |_=>exact Az h3
theorem IK{i:PySem.Expr}{x:Value}(h:BI i=true):foldedSetIterable i env x=pure x:=by
 cases i with
 |Set=>exact Ck h
 |_=>rfl
theorem Yw(hr:Bd prog w c n r)(hA:OkA A n)(Ag:Cu c sc env){F:Shared->Prop}{f:Fl}(hF:F Ao)
 (k:∀G' s' f',Nx c AH AC Ao ρ' G' s'->Inv c G' s' env ρ'->MD G' f f'->R' (.ok f') s') {its:List AV} (h:BP (forTurn r sc t b) its ρ=some (f,ρ')) (H:It prog w c F W a its G s) (I:Inv c G s env ρ) (N:Nx c AH AC Ao ρ G s):
 codeAny (model prog w) A (.forLoop t (.ref a) b [] env) R' s:=by
 refine codeAny_forLoop_any (λm s'=>∃its ρ G,m=its.length/\BP (forTurn r sc t b) its ρ=some (f,ρ')/\It prog w c F W a its G s'/\Inv c G s' env ρ/\Nx c AH AC Ao ρ G s') ?_ _ ⟨its,ρ,G,rfl,h,H,I,N⟩
 rintro m s' ⟨its,ρ,G,rfl,h,H,I,N⟩
 have d1:A.depth<=900:=by have:=hA.2.1;exact Ac 0x14c384330114a3843344151101 Aa this
 have d2:A.units<=9000:=by have:=hA.2.2;exact Ac 0x14c2328430114a23284343c251101 Aa this
 cases its with
 |nil=>
  cases h
  exact H A ρ' G s' env _ _ hA.1 d1 d2 Fu.refl I λs'' tr _ J=>wpAny_execs_nil (k G s'' .next (tr _ _ _ hF N) J trivial)
 |cons x xs=>
  refine BQ h λfl B8 ht h2=>?_
  refine AL ht λAw ha hs=>?_
  refine wpAny_mono (H A sc t ρ Aw G s' env (λ_ AU=>wpAny (model prog w) A (execs b env) (λSa AU=>match Sa with
   |.next|.cont=>∃m,m<(x::xs).length/\∃its ρ G,m=its.length/\BP (forTurn r sc t b) its ρ=some (f,ρ')/\It prog w c F W a its G AU/\Inv c G AU env ρ/\Nx c AH AC Ao ρ G AU
   |.brk=>R' (.ok .next) AU
   |.ret v=>R' (.ok (.ret v)) AU) (notedBy (model prog w) A env λe s'=>R' (.error e) s') AU) _ hA.1 d1 d2 Ag.1 Fu.refl I ha λAv Ad tr _ _ An H₁=>?_) (λr Ad Cd=>?_) λ_ _ e=>e
  ·refine hr.ss _ _ _ _ _ hs A env Av Ad _ _ hA Ag An λAY A4 f' A8 Ax FL=>?_
   have AM:=(tr _ _ _ hF N).trans A8
   cases fl with
   |ret u=>
    (revert h2;refine AO λc1 c2=>?_;subst c1;subst c2)
    cases f' with
    |ret u'=>exact k _ _ _ AM Ax FL
    |_=>exact FL.elim
   |next=>
    cases f' with
    |next=>exact⟨xs.length,by simp,xs,B8,AY,rfl,h2,H₁.later A8.fu,Ax,AM⟩
    |_=>exact FL.elim
   |cont=>
    cases f' with
    |cont=>exact⟨xs.length,by simp,xs,B8,AY,rfl,h2,H₁.later A8.fu,Ax,AM⟩
    |_=>exact FL.elim
  ·revert Cd;refine Cw λv Bc Cd=>?_;obtain rfl:=Bc
   exact Cd
noncomputable def SX(prog:Program)(w:World)(c:Cx)(n:Nat)(sc:Scope)(st:Stmt)(ρ:R)(f:Fl)(ρ':R):Prop:=
 ∀(A:Around) (env:Env) (G:Gh) (s:Shared) (Q:Flow->Shared->Prop) (E:Value->Shared->Prop),OkA A n->Cu c sc env->Inv c G s env ρ->
  (∀G' s' f',Nx c ρ G s ρ' G' s'->Inv c G' s' env ρ'->MD G' f f'->Q f' s')->wpAny (model prog w) A (exec st env) Q E s
set_option tactic.hygienic true in
theorem lI(h:Gq r sc e ρ=some (its,ρ')):BI e=true:=by
 unfold Gq at h
 split at h
 ·rename_i args hr'
  refine AL hr' λ_ hc _=>?_
  have he:=FD hc;subst he;rfl
 ·refine AL h λ_ hg _=>?_
  exact AI hg
theorem SX.forIn(T:Bx c top)(hr:Bd prog w c n r){i:PySem.Expr}{f:Fl}(hi:Gq r sc i ρ=some (its,Aw))(hl:BP (forTurn r sc t b) its Aw=some (f,ρ')):SX prog w c n sc (.For t i b [] pos) ρ f ρ':=by
 intro A env G s Q E hA Ag I k
 refine wpAny_For (PO T hr hA Ag hi I (.refl ..) λAv Ad a Au An _ d F=>?_) λx=>IK (lI hi)
 exact Yw (R':= λr s'=>match r with|.ok f=>Q f s'|.error e=>cameBackBy (model prog w) A env E e s') hr hA Ag d (λG' s' f' N' I' W=>k G' s' f' N' I' W) hl F.it An Au
theorem SX.whl(hr:Bd prog w c n r){W:Nat}{f:Fl}(h:GQ (r.t sc t) (r.ss sc b) W ρ=some (f,ρ')):SX prog w c n sc (.While t b [] pos) ρ f ρ':=by
 intro A env G s Q E hA Ag I k
 refine wpAny_While (codeAny_whileLoop (λm s'=>∃Aw Av,GQ (r.t sc t) (r.ss sc b) m Aw=some (f,ρ')/\Inv c Av s' env Aw/\Nx c ρ G s Aw Av s') ?_ W ⟨ρ,G,h,I,.refl ..⟩)
 rintro m s' ⟨Aw,Av,h,An,Au⟩
 cases m with
 |zero=>cases h
 |succ m=>
  refine BQ h λx B8 hx h2=>?_
  refine hr.t _ _ _ _ _ hx A env Av s' _ _ hA Ag An λAY A4 A8 Ax=>?_
  dsimp only at h2
  cases x with
  |false=>
   rw[if_neg Bool.false_ne_true] at h2 ⊢
   (revert h2;refine AO λc1 c2=>?_;subst c1;subst c2)
   exact wpAny_execs_nil (k AY A4 .next (Au.trans A8) Ax trivial)
  |true=>
   rw[if_pos rfl] at h2 ⊢
   refine BQ h2 λfl C2 hb h3=>?_
   refine hr.ss _ _ _ _ _ hb A env AY A4 _ _ hA Ag Ax λCq AU f' AM Bf F=>?_
   have N:=(Au.trans A8).trans AM
   cases fl with
   |ret u=>
    (revert h3;refine AO λc1 c2=>?_;subst c1;subst c2)
    cases f' with
    |ret u'=>exact k _ _ _ N Bf F
    |_=>exact F.elim
   |next=>
    cases f' with
    |next=>exact⟨m,Nat.lt_succ_self m,C2,Cq,h3,Bf,N⟩
    |_=>exact F.elim
   |cont=>
    cases f' with
    |cont=>exact⟨m,Nat.lt_succ_self m,C2,Cq,h3,Bf,N⟩
    |_=>exact F.elim
theorem SX.iff(hr:Bd prog w c n r){o:List Stmt}{f:Fl}{x:Bool}(ht:r.t sc t ρ=some (x,Aw))(h:(if x=true then r.ss sc b Aw else r.ss sc o Aw)=some (f,ρ')):SX prog w c n sc (.If t b o pos) ρ f ρ':=by
 intro A env G s Q E hA Ag I k
 refine wpAny_If (hr.t _ _ _ _ _ ht A env G s _ _ hA Ag I λAv Ad Au An=>?_)
 cases x with
 |false=>
  rw[if_neg Bool.false_ne_true] at h ⊢
  exact hr.ss _ _ _ _ _ h A env Av Ad _ _ hA Ag An λAY A4 f' A8 Ax F=>k _ _ _ (Au.trans A8) Ax F
 |true=>
  rw[if_pos rfl] at h ⊢
  exact hr.ss _ _ _ _ _ h A env Av Ad _ _ hA Ag An λAY A4 f' A8 Ax F=>k _ _ _ (Au.trans A8) Ax F
theorem SX.ret(hr:Bd prog w c n r)(h:r.e sc e ρ=some (v,ρ')):SX prog w c n sc (.Return (some e) pos) ρ (.ret v) ρ':= λA env G s Q E hA Ag I k=>
 wpAny_Return_some (hr.e _ _ _ _ _ h A env G s _ _ hA Ag I λG' s' v' N' I' V=>k _ _ _ N' I' V)
theorem SX.cont:SX prog w c n sc (.Continue pos) ρ .cont ρ:= λ_ _ _ _ _ _ _ _ I k=>wpAny_Continue (k _ _ _ (.refl ..) I trivial)
theorem oV(I:Inv c G s env ρ):interactive env=false:=by
 unfold interactive;rw[I.kf];rfl
theorem SX.expr(hr:Bd prog w c n r)(hc:(G3 e).isSome=true)(h:r.e sc e ρ=some (v,ρ')):SX prog w c n sc (.Expr e pos) ρ .next ρ':=by
 intro A env G s Q E hA Ag I k
 refine wpAny_Expr_any (hr.e _ _ _ _ _ h A env G s _ _ hA Ag I λG' s' v' N' I' V=>k _ _ _ N' I' trivial) (oV I) ?_
 obtain⟨t,he⟩:=Wr hc;subst he;rfl
theorem Vn{a b:AV}(h:Gy op a b=some v)(Va:VR G a a')(Vb:VR G b b')(I:Inv c G s env ρ)
 (k:∀s' v',Nx c ρ G s ρ G s'->Inv c G s' env ρ->VR G v v'->Q v' s'):wpAny (model prog w) A (inplaceOp op a' b') Q E s:=by
 cases op with
 |Add=>
  cases Va with
  |int=>
   revert h;refine Ai λy hy h=>?_
   obtain⟨t,rfl⟩:=VR.isInt hy Vb
   (revert h;refine As λc0=>?_;subst c0)
   exact wpAny_iadd_int (k _ _ (.toks _) (I.toks _) .int)
  |str=>
   revert h;refine Ai λy hy h=>?_
   revert h;refine Ai λu hg h=>?_
   obtain⟨t,rfl⟩:=VR.isStr hy Vb
   (revert h;refine As λc0=>?_;subst c0)
   exact wpAny_with_toks I.stat.tok (SB.iadd (λ_ tk ht=>k _ _ (.toks tk) (I.toks tk ht) .str) (Hp (of_decide_eq_true (AI hg))))
  |_=>cases h
 |Sub=>
  revert h;refine Ai λx hx h=>?_
  revert h;refine Ai λy hy h=>?_
  obtain⟨t,rfl⟩:=VR.isInt hx Va
  obtain⟨u,rfl⟩:=VR.isInt hy Vb
  (revert h;refine As λc0=>?_;subst c0)
  exact isub_int (k _ _ (.toks _) (I.toks _) .int)
 |_=>exact Az h
theorem kZ{a b:AV}(h:Gy op a b=some v):a.free=true:=by
 cases op with
 |Add=>
  cases a with
  |int|str=>rfl
  |_=>cases h
 |Sub=>
  refine AL h λx hx _=>?_
  rw[Nh hx];rfl
 |_=>exact Az h
theorem SX.aug(hr:Bd prog w c n r){p:Pos}{old:AV}(hx:Ca sc x ρ=some old)(hv:r.e sc e ρ=some (v,Aw))(hu:Gy op old v=some u)(hb:Cy sc x u Aw=some ρ'):SX prog w c n sc (.AugAssign (.Name x p) op e pos) ρ .next ρ':=by
 intro A env G s Q E hA Ag I k
 refine wpAny_AugAssign_Name (Sv I hx λo' z=>?_)
 have JB:=z.free (kZ hu)
 refine(hr.e _ _ _ _ _ hv).then hA Ag I (.refl ..) λAv Ad v' Au An B5 Bj=>Vn hu (JB.mono B5) Bj An λA4 u' A8 Ax Dk=>?_
 exact GG Ax (Au.trans A8) Ag.1 hb (Ax.gr _ _) Dk.or λAU AM Bf=>k _ _ _ AM Bf trivial
theorem SX.set(hr:Bd prog w c n r){p:Pos}(hn:Ih e=false)(hv:r.e sc e ρ=some (v,Aw))(hb:Cy sc x v Aw=some ρ')(hs:∀env,swapsWith e (some (.Name x p)) pos.line env=pure false):SX prog w c n sc (.Assign [.Name x p] e pos) ρ .next ρ':=by
 intro A env G s Q E hA Ag I k
 refine wpAny_Assign_Name ((hr.e _ _ _ _ _ hv).then hA Ag I (.refl ..) λAv Ad v' Au An B5 Bj=>?_) (hs env)
 exact GG An Au Ag.1 hb (An.gr _ _) Bj.or λAU AM Bf=>k _ _ _ AM Bf trivial
theorem Vz(I:Inv c G s env ρ)(N:Nx c AH AC Ao ρ G s){vs:Array Value}(F:Kt c G Ao s a xs vs)(hx:ρ.get x=none):
 Gr c Ao G s ρ x (G.put a (.own x 0))/\OR c (G.put a (.own x 0)) s.heap x (.ol xs) (.ref a):=by
 have up:=Gh.put_up (r:=AP.own x 0) F.nor
 refine⟨⟨up,λb r e=>?_,λb b' k e e'=>?_⟩,a,vs,rfl,Gh.put_self ..,F.at',F.vrs.mono λb o e=>up b _ e⟩
 ·rcases Gh.put_dn b r e with⟨rfl,rfl⟩|e
  ·exact .inr ⟨F.nor,F.ge,F.at'.elim λ_ e=>⟨_,e⟩,F.base,hx,0,rfl⟩
  ·exact .inl e
 ·have no:∀b k,G b≠some (.own x k):= λb k e=>by
   have:=I.res b x k e
   rw[hx] at this;exact Ck this
  rcases Gh.put_dn b _ e with⟨rfl,_⟩|e
  ·rcases Gh.put_dn b' _ e' with⟨rfl,_⟩|e'
   ·rfl
   ·exact absurd e' (no _ _)
  ·exact absurd e (no _ _)
noncomputable def LW(ifs:List PySem.Expr)(env:Env):Sem Bool:=forIn ifs true λc r=>if r=true then do let ok <-isTrue c env (eval c env);pure (ForInStep.yield ok) else pure (ForInStep.yield r)
theorem hZ{d:Nat}{it acc:Value}{Q:PySem.Fin->Shared->Prop}(hg:gens[d]? =some g)(ha:∀g∈gens,g.is_async=0/\BI g.iter=true)
 (h:wpAny (model prog w) A (pyNext it) (λr Ad=>match r with
  |none=>Q (.done .next) Ad
  |some v=>wpAny (model prog w) A (letOwnedTupleGo g.target it v) (λ_ A4=>wpAny (model prog w) A (assign g.target env v) (λ_ AU=>wpAny (model prog w) A (LW g.ifs env) (λok CI=>
   if ok=true then(match gens[d+1]? with
    |some g'=>wpAny (model prog w) A (eval g'.iter env) (λx Ep=>wpAny (model prog w) A (pyIter x) (λJA Gs=>codeAny (model prog w) A (.compStart (.ListComp elt gens scope pos) (d+1) JA acc env)
     (λr s'=>match r with|.ok _=>Q (.again (.compLoop (.ListComp elt gens scope pos) d it acc env)) s'|.error e=>cameBackBy (model prog w) A env E e s') Gs) E Ep) E CI
    |none=>wpAny (model prog w) A (eval elt env) (λx Ep=>wpAny (model prog w) A (call (.builtin "list.append") [acc,x]) (λ_ Gs=>Q (.again (.compLoop (.ListComp elt gens scope pos) d it acc env)) Gs) E Ep) E CI)
   else Q (.again (.compLoop (.ListComp elt gens scope pos) d it acc env)) CI) E AU) E A4) E Ad) E s):wpAny (model prog w) A (PySem.compTurn (.ListComp elt gens scope pos) d it acc env) Q E s:=by
 have hm:=(ha g (List.mem_of_getElem? hg)).1
 unfold PySem.compTurn
 dsimp only
 rw[hg]
 dsimp only
 rw[hm]
 simp only[bne_self_eq_false,Bool.false_eq_true,if_false]
 refine wpAny_bind (wpAny_standAt (wpAny_bind (wpAny_mono h (λr Ad Cd=>?_) λ_ _ e=>e)))
 cases r with
 |none=>exact wpAny_pure Cd
 |some v=>
  refine wpAny_bind (wpAny_mono Cd (λ_ A4 ES=>wpAny_bind (wpAny_mono ES (λ_ AU FR=>?_) λ_ _ e=>e)) λ_ _ e=>e)
  refine wpAny_bind (m:=LW g.ifs env) (wpAny_mono FR (λok CI Js=>?_) λ_ _ e=>e)
  cases ok with
  |false=>exact wpAny_pure Js
  |true=>
   rw[if_pos rfl] at Js ⊢
   cases FV:gens[d+1]? with
   |none=>
    rw[FV] at Js
    exact wpAny_bind (wpAny_bind (wpAny_mono Js (λx Ep GZ=>wpAny_bind (wpAny_mono GZ (λ_ Gs RM=>wpAny_pure (wpAny_pure RM)) λ_ _ e=>e)) λ_ _ e=>e))
   |some g'=>
    rw[FV] at Js
    obtain⟨m1,m2⟩:=ha g' (List.mem_of_getElem? FV)
    dsimp only
    rw[m1]
    simp only[bne_self_eq_false,Bool.false_eq_true,if_false]
    refine wpAny_bind (wpAny_mono Js (λx Ep GZ=>wpAny_bind (wpAny_standAt (wpAny_bind (wpAny_of_eq (IK m2) (wpAny_bind (wpAny_holding (wpAny_mono GZ (λJA Gs RM=>?_) λ_ _ e=>e))))))) λ_ _ e=>e)
    refine wpAny_bind (wpAny_runOwn (codeAny_mono RM λr s' hr=>?_))
    cases r with
    |ok f=>exact wpAny_pure hr
    |error e=>exact hr
theorem YB:∀ifs:List PySem.Expr,(forIn ifs false λc r=>if r=true then do let ok <-isTrue c env (eval c env);pure (ForInStep.yield ok) else pure (ForInStep.yield r):Sem Bool)=pure false:=by
 intro Al
 induction Al with
 |nil=>
  exact rfl
 |cons e es zih=>
  rw[List.forIn_cons]
  simp only[Bool.false_eq_true,if_false,pure_bind]
  exact zih
theorem j2(hr:Bd prog w c n r)(hA:OkA A n)(Ag:Cu c sc env){Q:Bool->Shared->Prop}:∀{ifs:List PySem.Expr} {ρ ρ':R} {b:Bool} {G:Gh} {s:Shared},Ga r sc ifs ρ=some (b,ρ')->Inv c G s env ρ->Nx c AH AC Ao ρ G s->
 (∀G' s',Nx c AH AC Ao ρ' G' s'->Inv c G' s' env ρ'->Q b s')->wpAny (model prog w) A (LW ifs env) Q E s:=by
 intro Al
 induction Al with
 |nil=>
  intro _ _ _ _ _ h I N k
  (revert h;refine AO λc1 c2=>?_;subst c1;subst c2);exact wpAny_pure (k _ _ N I)
 |cons e es ih=>
  intro ρ _ _ G s h I N k
  refine BQ h λb Aw hb h2=>?_
  dsimp only at h2
  unfold LW
  rw[List.forIn_cons]
  simp only[if_true]
  refine wpAny_bind (wpAny_bind (hr.t _ _ _ _ _ hb A env G s _ _ hA Ag I λAv Ad Au An=>wpAny_pure ?_))
  cases b with
  |true=>
   rw[if_pos rfl] at h2
   exact ih h2 An (N.trans Au) k
  |false=>
   rw[if_neg Bool.false_ne_true] at h2
   (revert h2;refine AO λc1 c2=>?_;subst c1;subst c2)
   exact wpAny_of_eq (YB es) (k _ _ (N.trans Au) An)
theorem Y7{l:Addr}{its:Array Value}{v:Value}(hp:PL s.heap l its)(hl:its.size<Bg)(k:∀h',Heap.SameBut l s.heap h'->PL h' l (its.push v)->Q .none {s with heap:=h'}):
 wpAny (model prog w) A (call (.builtin "list.append") [.ref l,v]) Q E s:=by
 obtain⟨j,z⟩:=hp
 refine wpAny_call_entry F.slot_list_append ⟨_,z,rfl⟩ F.entry_list_append ?_ (F.args_list_append_2 _ _)
 show wpAny _ _ (updateSeq l (·.push _)>>= λ_=>ret .none) _ _ s
 have:=Hp (Nat.le_of_lt hl)
 exact wpAny_bind (wpAny_updateSeq z rfl (wpAny_pure ⟨.none,rfl,k _ (Heap.SameBut.update ..) (LP z _)⟩) this (by rw[Array.size_push];exact Ah 0x14c4121000000734120116a186a05301 Aa hl))
theorem Wn{d:Nat}{it acc:Value}(hg:gens[d]? =some g)(ha:g.is_async=0)
 (h0:codeAny (model prog w) A (.compLoop (.ListComp elt gens scope pos) d it acc env) R' s)
 (h:wpAny (model prog w) A (pyIter it) (λJA s'=>codeAny (model prog w) A (.compLoop (.ListComp elt gens scope pos) d JA acc env) R' s') (notedBy (model prog w) A env λx s'=>R' (.error x) s') s):
 codeAny (model prog w) A (.compStart (.ListComp elt gens scope pos) d it acc env) R' s:=by
 refine codeAny_of_tree ?_
 show wpAny _ _ ((compStart (.ListComp elt gens scope pos) d it acc env).onRaise (λx=>do noteFrame x env;standAt theWindowsPlace)) _ _ s
 refine wpAny_notedAt ?_
 unfold compStart
 have e1:(clausesOf (.ListComp elt gens scope pos))[d]? =some g:=hg
 rw[e1]
 simp only[Option.elim_some,ha,bne_self_eq_false,Bool.false_eq_true,if_false]
 refine wpAny_bind (wpAny_askSetting (wpAny_ite ?_))
 split
 ·first
   |exact wpAny_bind (wpAny_pure (wpAny_pure (And.intro rfl h0)))
   |exact wpAny_pure (And.intro rfl h0)
 ·refine wpAny_bind (wpAny_rule (wpAny_bind (wpAny_standAt (wpAny_bind (wpAny_mono h (λJA s' h'=>wpAny_pure (And.intro rfl h')) λ_ _ x=>x)))))
structure Acc (c:Cx) (G:Gh) (h:Heap) (a:Addr) (acc:List AV):Prop where
 nor:G a=none
 base:c.base.get? a=none
 list:∃vs,PL h a vs/\VRs G acc vs.toList
theorem Acc.later(C:Acc c G h a acc)(le:G.Le G')(k:∀o,h.get? a=some o->h'.get? a=some o/\G' a=none):Acc c G' h' a acc:=by
 refine Ak (C.list) λvs Bc V=>?_;obtain⟨j,e⟩:=Bc
 exact⟨(k _ e).2,C.base,vs,⟨j,(k _ e).1⟩,V.mono le⟩
theorem Acc.noTab(C:Acc c G h a acc)(I:Inv c G s env ρ):¬c.isTab a:= λ⟨t,m,q⟩=>by
 have:=(I.stat.tab t m).2
 rw[q,C.base] at this;exact Az this
structure Fill (c:Cx) (F:Shared->Prop) (W:Addr->Prop) (a:Addr) (ρ:R) (G:Gh) (s:Shared) (ρ':R) (G':Gh) (s':Shared):Prop where
 tr:∀AH AC Ao,F Ao->Ao.heap.get? a=none->Nx c AH AC Ao ρ G s->Nx c AH AC Ao ρ' G' s'
 keep:∀b o,¬W b->b≠a->s.heap.get? b=some o->G b=none->¬c.isTab b->s'.heap.get? b=some o/\G' b=none
 le:G.Le G'
theorem Fill.refl{F:Shared->Prop}:Fill c F W a ρ G s ρ G s:=⟨λ_ _ _ _ _ N=>N,λ_ _ _ _ e g _=>⟨e,g⟩,.refl _⟩
theorem Fill.trans{F:Shared->Prop}(x:Fill c F W a ρ G s ρ' G' s')(y:Fill c F W a ρ' G' s' I5 CD s''):Fill c F W a ρ G s I5 CD s'':=
 ⟨λAH AC Ao f d N=>y.tr _ _ _ f d (x.tr _ _ _ f d N),λb o nw na e g t=>(x.keep b o nw na e g t).elim λe' g'=>y.keep b o nw na e' g' t,x.le.trans y.le⟩
theorem Nx.fill{F:Shared->Prop}(N:Nx c ρ G s ρ' G' s'):Fill c F W a ρ G s ρ' G' s':=⟨λ_ _ _ _ _ M=>M.trans N,λb o _ _ e g t=>⟨N.keep b o e g t,N.new b o e g⟩,N.le⟩
theorem Fill.fu{F:Shared->Prop}{W':Addr->Prop}(x:Fill c F W a ρ G s ρ' G' s')(h:∀b o,W' b->s.heap.get? b=some o->¬W b/\b≠a):Fu c W' G s G' s':=
 ⟨x.le,λb o w' e g t=>x.keep b o (h b o w' e).1 (h b o w' e).2 e g t⟩
noncomputable def NV(prog:Program)(w:World)(A:Around)(elt:PySem.Expr)(gens:List Comprehension)(scope:Scope)(pos:Pos)(d:Nat)(acc:Value)(env:Env)(E:Value->Shared->Prop)(Q:Shared->Prop)(s:Shared):Prop:=match gens[d+1]? with
 |some g'=>wpAny (model prog w) A (eval g'.iter env) (λx Ep=>wpAny (model prog w) A (pyIter x) (λJA Gs=>codeAny (model prog w) A (.compStart (.ListComp elt gens scope pos) (d+1) JA acc env)
  (λr s'=>match r with|.ok _=>Q s'|.error e=>cameBackBy (model prog w) A env E e s') Gs) E Ep) E s
 |none=>wpAny (model prog w) A (eval elt env) (λx Ep=>wpAny (model prog w) A (call (.builtin "list.append") [acc,x]) (λ_ Gs=>Q Gs) E Ep) E s
theorem TR(hr:Bd prog w c n r)(hA:OkA A n)(Ag:Cu c sc env)(ha:∀g∈gens,g.is_async=0/\BI g.iter=true){d:Nat}(hg:gens[d]? =some g)
 (EP:∀(B8 C2:R) (acc ER:List AV) (AY:Gh) (A4:Shared) (E:Value->Shared->Prop) (Q:Shared->Prop),go acc B8=some (ER,C2)->Inv c AY A4 env B8->Acc c AY A4.heap a acc->
  (∀Cq AU,Fill c (λ_=>True) (λ_=>False) a B8 AY A4 C2 Cq AU->Inv c Cq AU env C2->Acc c Cq AU.heap a ER->Q AU)->NV prog w A elt gens scope pos d (.ref a) env E Q A4)
 {its acc Fw:List AV} {I:Addr} {F:Shared->Prop} {W:Addr->Prop} {R':Result->Shared->Prop} (h:B6 (Mine.compTurn r sc g.target g.ifs go) its acc ρ=some (Fw,ρ')) (H:It prog w c F W I its G s) (hW:¬W a) (H6:Inv c G s env ρ) (C:Acc c G s.heap a acc)
 (k:∀G' s',Fill c F W a ρ G s ρ' G' s'->Inv c G' s' env ρ'->Acc c G' s'.heap a Fw->R' (.ok .next) s'):codeAny (model prog w) A (.compLoop (.ListComp elt gens scope pos) d (.ref I) (.ref a) env) R' s:=by
 have d1:A.depth<=900:=by have:=hA.2.1;exact Ac 0x14c384330114a3843344151101 Aa this
 have d2:A.units<=9000:=by have:=hA.2.2;exact Ac 0x14c2328430114a23284343c251101 Aa this
 refine codeAny_loop rfl (λm s'=>∃its acc Aw Av,m=its.length/\B6 (Mine.compTurn r sc g.target g.ifs go) its acc Aw=some (Fw,ρ')/\It prog w c F W I its Av s'/\Inv c Av s' env Aw/\Acc c Av s'.heap a acc/\Fill c F W a ρ G s Aw Av s') ?_ _ ⟨its,acc,ρ,G,rfl,h,H,H6,C,.refl⟩
 rintro m s' ⟨its,acc,Aw,Av,rfl,h,H,An,BU,B5⟩
 show wpAny _ A ((PySem.compTurn (.ListComp elt gens scope pos) d (.ref I) (.ref a) env).onRaise (λx=>do noteFrame x env;theTreesLotGoes x)) _ _ s'
 refine wpAny_noted (hZ hg ha ?_)
 cases its with
 |nil=>
  cases h
  exact H A ρ' Av s' env _ _ hA.1 d1 d2 Fu.refl An λs'' tr kp J=>k Av s'' (B5.trans ⟨λAH AC Ao f _ N=>tr _ _ _ f N,λb o nw _ e g t=>⟨kp b o nw e g t,g⟩,.refl _⟩) J (BU.later (.refl _) λo e=>⟨kp a o hW e BU.nor (BU.noTab An),BU.nor⟩)
 |cons x xs=>
  refine BQ h λER FT ht h2=>?_
  refine AL ht λB8 hb h3=>?_
  refine BQ h3 λb C2 hi h4=>?_
  dsimp only at h4
  have Xv:∀{FP:Gh} {CI:Shared} {ER:List AV} {FT:R},B6 (Mine.compTurn r sc g.target g.ifs go) xs ER FT=some (Fw,ρ')->It prog w c F W I xs FP CI->Inv c FP CI env FT->Acc c FP CI.heap a ER->Fill c F W a ρ G s FT FP CI->
   (Code.compLoop (.ListComp elt gens scope pos) d (.ref I) (.ref a) env=Code.compLoop (.ListComp elt gens scope pos) d (.ref I) (.ref a) env/\∃m,m<(x::xs).length/\∃its acc Aw Av,m=its.length/\B6 (Mine.compTurn r sc g.target g.ifs go) its acc Aw=some (Fw,ρ')/\It prog w c F W I its Av CI/\Inv c Av CI env Aw/\Acc c Av CI.heap a acc/\Fill c F W a ρ G s Aw Av CI):=
   λ{FP CI ER FT} h' H' I' C' L'=>⟨rfl,xs.length,by simp,xs,ER,FT,FP,rfl,h',H',I',C',L'⟩
  refine wpAny_mono (H A sc g.target Aw B8 Av s' env (λ_ AU=>wpAny (model prog w) A (LW g.ifs env) (λok CI=>if ok=true then NV prog w A elt gens scope pos d (.ref a) env (notedBy (model prog w) A env λe s'=>R' (.error e) s') (λEp=>(Code.compLoop (.ListComp elt gens scope pos) d (.ref I) (.ref a) env=Code.compLoop (.ListComp elt gens scope pos) d (.ref I) (.ref a) env/\∃m,m<(x::xs).length/\∃its acc Aw Av,m=its.length/\B6 (Mine.compTurn r sc g.target g.ifs go) its acc Aw=some (Fw,ρ')/\It prog w c F W I its Av Ep/\Inv c Av Ep env Aw/\Acc c Av Ep.heap a acc/\Fill c F W a ρ G s Aw Av Ep)) CI
   else(Code.compLoop (.ListComp elt gens scope pos) d (.ref I) (.ref a) env=Code.compLoop (.ListComp elt gens scope pos) d (.ref I) (.ref a) env/\∃m,m<(x::xs).length/\∃its acc Aw Av,m=its.length/\B6 (Mine.compTurn r sc g.target g.ifs go) its acc Aw=some (Fw,ρ')/\It prog w c F W I its Av CI/\Inv c Av CI env Aw/\Acc c Av CI.heap a acc/\Fill c F W a ρ G s Aw Av CI)) (notedBy (model prog w) A env λe s'=>R' (.error e) s') AU) _ hA.1 d1 d2 Ag.1 Fu.refl An hb λAY A4 tr kp le Ax Ye=>?_) (λr Ad Cd=>?_) λ_ _ e=>e
  ·have FY:=BU.later (h':=A4.heap) le λo e=>kp a o hW e BU.nor (BU.noTab An)
   have Ea:=B5.trans (⟨λAH AC Ao f _ N=>tr _ _ _ f N,λb o nw _ e g t=>kp b o nw e g t,le⟩:Fill c F W a Aw Av s' B8 AY A4)
   refine j2 hr hA Ag hi Ax (.refl ..) λCq AU AM Bf=>?_
   have OK:=FY.later (h':=AU.heap) AM.le λo e=>⟨AM.keep a o e FY.nor (FY.noTab Ax),AM.new a o e FY.nor⟩
   have Eb:=Ea.trans (AM.fill (F:=F) (W:=W) (a:=a))
   cases b with
   |false=>
    rw[if_neg Bool.false_ne_true] at h4 ⊢
    (revert h4;refine AO λc1 c2=>?_;subst c1;subst c2)
    exact Xv h2 (Ye.later AM.fu) Bf OK Eb
   |true=>
    rw[if_pos rfl] at h4 ⊢
    refine EP C2 FT acc ER Cq AU _ _ h4 Bf OK λFP CI L Di Rz=>Xv h2 ((Ye.later AM.fu).later (L.fu λb o wb _=>⟨id,λq=>hW (q▸wb)⟩)) Di Rz (Eb.trans ⟨λAH AC Ao _ d N=>L.tr _ _ _ trivial d N,λb o _ na e g t=>L.keep b o id na e g t,L.le⟩)
  ·revert Cd;refine Cw λv Bc Cd=>?_;obtain rfl:=Bc
   exact Cd
theorem aI(hr:Bd prog w c n r)(hA:OkA A n)(Ag:Cu c sc env){ER:List AV}{Q:Shared->Prop}(h:VQ r sc elt acc ρ=some (ER,ρ'))(I:Inv c G s env ρ)(C:Acc c G s.heap a acc)
 (k:∀Cq AU,Fill c (λ_=>True) (λ_=>False) a ρ G s ρ' Cq AU->Inv c Cq AU env ρ'->Acc c Cq AU.heap a ER->Q AU):wpAny (model prog w) A (eval elt env) (λx Ep=>wpAny (model prog w) A (call (.builtin "list.append") [.ref a,x]) (λ_ Gs=>Q Gs) E Ep) E s:=by
 refine BQ h λv Aw hv h2=>?_
 refine AL h2 λ_ hl h3=>?_
 (revert h3;refine AO λc1 c2=>?_;subst c1;subst c2)
 have hl:=of_decide_eq_true (AI hl)
 refine(hr.e _ _ _ _ _ hv).then hA Ag I (.refl ..) λAv Ad v' Au An B5 V=>?_
 have BU:=C.later (h':=Ad.heap) B5 λo e=>⟨Au.keep a o e C.nor (C.noTab I),Au.new a o e C.nor⟩
 refine Ak (BU.list) λvs hp W=>?_
 have e:acc.length=vs.size:=W.length
 refine Y7 hp (by exact Ac 0x16c186a0531115b110116a186a05301 Aa e hl) λh' hs JD=>?_
 have hk:∀b o,b∉[a]->Ad.heap.get? b=some o->h'.get? b=some o:= λb o nb e=>(hs.2 b λq=>nb (List.mem_singleton.mpr q)).trans e
 refine k Av {Ad with heap:=h'} ⟨λAH AC Ao _ d N=>(N.trans Au).loose (W:=[a]) (s'':={Ad with heap:=h'}) (λb m=>by rw[List.mem_singleton.mp m];exact d) hk (λ_ _ e _=>e) rfl,λb o _ na e g t=>?_,B5⟩
  (An.loose (W:=[a]) (λb m=>by rw[List.mem_singleton.mp m];exact⟨BU.nor,BU.base⟩) hk An.stat.bare An.stat.tok) ⟨BU.nor,BU.base,_,JD,?_⟩
 ·exact⟨hk b o (λm=>na (List.mem_singleton.mp m)) (Au.keep b o e g t),Au.new b o e g⟩
 ·rw[Array.toList_push];exact W.append (.cons V .nil)
theorem Nd{l:List α}{d:Nat}{g:α}{gs:List α}(h:l.drop d=g::gs):l[d]? =some g:=by
 have q:(l.drop d)[0]? =l[d+0]? :=List.getElem?_drop
 rw[h] at q
 exact q.symm
theorem Zz(T:Bx c top)(hr:Bd prog w c n r)(hA:OkA A n)(Ag:Cu c sc env)(ha:∀g∈gens,g.is_async=0/\BI g.iter=true):
 ∀(gs:List Comprehension) (d:Nat) (g:Comprehension) (_:gens.drop d=g::gs) {its acc Fw:List AV} {ρ ρ':R} {G:Gh} {s:Shared} {I:Addr} {F:Shared->Prop} {W:Addr->Prop} {R':Result->Shared->Prop},
  B6 (Mine.compTurn r sc g.target g.ifs (BF r sc elt gs)) its acc ρ=some (Fw,ρ')->It prog w c F W I its G s->¬W a->Inv c G s env ρ->Acc c G s.heap a acc->
  (∀G' s',Fill c F W a ρ G s ρ' G' s'->Inv c G' s' env ρ'->Acc c G' s'.heap a Fw->R' (.ok .next) s')->codeAny (model prog w) A (.compLoop (.ListComp elt gens scope pos) d (.ref I) (.ref a) env) R' s:=by
 intro gs
 induction gs with
 |nil=>
  intro d g hd its acc Fw ρ ρ' G s I F W R' h H hW H6 C k
  have hg:gens[d]? =some g:=Nd hd
  have FV:gens[d+1]? =none:=by
   have:gens.drop (d+1)=[]:=by rw[<-List.drop_drop,hd];rfl
   exact List.getElem?_eq_none_iff.mpr (List.drop_eq_nil_iff.mp this)
  refine TR hr hA Ag ha hg (λB8 C2 acc ER AY A4 E Q ES Ax FY H5=>?_) h H hW H6 C k
  unfold NV
  rw[FV]
  exact aI hr hA Ag ES Ax FY H5
 |cons g' gs ih=>
  intro d g hd its acc Fw ρ ρ' G s I F W R' h H hW H6 C k
  have hg:gens[d]? =some g:=Nd hd
  have FS:gens.drop (d+1)=g'::gs:=by rw[<-List.drop_drop,hd];rfl
  have FV:gens[d+1]? =some g':=Nd FS
  refine TR hr hA Ag ha hg (λB8 C2 acc ER AY A4 E Q ES Ax FY H5=>?_) h H hW H6 C k
  unfold NV
  rw[FV]
  refine BQ ES λM3 Mz hi h3=>?_
  refine PO T hr hA Ag hi Ax (.refl ..) λCq AU J AM Bf Eb dJ NJ=>?_
  have OK:=FY.later (h':=AU.heap) Eb λo e=>⟨AM.keep a o e FY.nor (FY.noTab Ax),AM.new a o e FY.nor⟩
  have live:∀b o,A4.heap.get? b=some o->b≠J:= λb o e q=>by rw[q,dJ] at e;exact Az e
  have sE:¬a=J:=by
   refine Ak (FY.list) λvs Bc _=>?_;obtain⟨j,e⟩:=Bc
   exact live a _ e
  have go:codeAny (model prog w) A (.compLoop (.ListComp elt gens scope pos) (d+1) (.ref J) (.ref a) env) (λr s'=>match r with|.ok _=>Q s'|.error e=>cameBackBy (model prog w) A env E e s') AU:=
   ih (d+1) g' FS h3 NJ.it sE Bf OK λFP CI RG Di Rz=>H5 FP CI ⟨λAH AC Ao _ d N=>RG.tr _ _ _ (N.dead dJ) d (N.trans AM),λb o _ na e g t=>RG.keep b o (live b o e) na (AM.keep b o e g t) (AM.new b o e g) t,Eb.trans RG.le⟩ Di Rz
  exact Wn FV (ha g' (List.mem_of_getElem? FV)).1 go (NJ.self A Mz Cq AU env _ _ hA.1 Fu.refl Bf go)
theorem kN:∀(names:List (Str×NameKind)) (h:Heap) (acc:List (Str×Addr)) (lo:Nat),lo<=h.objs.size->(∀x a,acc.lookup x=some a->a<lo∨(lo<=a/\a<h.objs.size/\h.IsCell a none))->(∀x y a,acc.lookup x=some a->acc.lookup y=some a->x=y)->
 (∀x a,(cellsFrom h.objs.size names acc).lookup x=some a->(a<lo/\∃y,acc.lookup y=some a)∨(lo<=a/\(pushCells h names).IsCell a none))/\
 (∀x y a,(cellsFrom h.objs.size names acc).lookup x=some a->(cellsFrom h.objs.size names acc).lookup y=some a->x=y):=by
 intro Al
 induction Al with
 |nil=>
  intro h acc lo _ i1 i2
  exact⟨λx a e=>(i1 x a e).imp (λl=>⟨l,x,e⟩) λq=>⟨q.1,q.2.2⟩,i2⟩
 |cons zx r zih=>
  obtain⟨n,k⟩:=zx
  intro h acc lo hl i1 i2
  unfold cellsFrom pushCells
  split
  ·have look:∀x a,((n,h.objs.size)::acc).lookup x=some a->(x=n/\a=h.objs.size)∨acc.lookup x=some a:= λx a e=>by
    rw[List.lookup_cons] at e
    by_cases q:x=n
    ·rw[q,beq_self_eq_true] at e;(revert e;refine As λc0=>?_;subst c0);exact .inl ⟨q,rfl⟩
    ·rw[show(x==n)=false by simpa using q] at e;exact .inr e
   have lt:∀x a,acc.lookup x=some a->a<h.objs.size:= λx a e=>(i1 x a e).elim (λl=>Nat.lt_of_lt_of_le l hl) λq=>q.2.1
   have z:=Heap.size_push h {cls:=.type "cell",data:=.cell none}
   have R:=zih (h.push {cls:=.type "cell",data:=.cell none}) ((n,h.objs.size)::acc) lo (z▸Nat.le_succ_of_le hl) (λx a e=>?_) λx y a e e'=>?_
   ·rw[z] at R
    refine⟨λx a e=>(R.1 x a e).imp (λ⟨l,y,e⟩=>⟨l,y,(look y a e).resolve_left λq=>?_⟩) id,R.2⟩
    exact Nat.not_lt.mpr hl (q.2▸l)
   ·rcases look x a e with⟨_,rfl⟩|e
    ·exact .inr ⟨hl,z▸Nat.lt_succ_self _,_,Heap.get?_push_size _ rfl,rfl⟩
    ·refine(i1 x a e).imp id λq=>⟨q.1,z▸Nat.lt_succ_of_lt q.2.1,q.2.2.keeps λb o e=>Heap.get?_push_of_some _ e⟩
   ·rcases look x a e with⟨rfl,q⟩|e
    ·rcases look y a e' with⟨rfl,_⟩|e'
     ·rfl
     ·exact absurd (lt y a e') (q▸Nat.lt_irrefl _)
    ·rcases look y a e' with⟨_,q⟩|e'
     ·exact absurd (lt x a e) (q▸Nat.lt_irrefl _)
     ·exact i2 x y a e e'
  ·exact zih h acc lo hl i1 i2
theorem m6(f:Str->NameKind->NameKind)(x:Str):∀l:List (Str×NameKind),(l.map λp=>(p.1,f p.1 p.2)).lookup x=(l.lookup x).map (f x):=by
 intro Al
 induction Al with
 |nil=>
  exact rfl
 |cons zx r zih=>
  obtain⟨y,k⟩:=zx
  rw[List.map_cons,List.lookup_cons,List.lookup_cons,zih]
  by_cases q:x=y
  ·subst q;rw[beq_self_eq_true];rfl
  ·rw[show(x==y)=false by simpa using q]
theorem jS:(A5 sc scope).names.lookup x=(scope.names.lookup x).map λk=>if k==.free&&sc.kind==.function&&sc.names.lookup x==some .cell then .cell else k:=by
 rw[<-m6 (λx k=>if k==.free&&sc.kind==.function&&sc.names.lookup x==some .cell then .cell else k) x scope.names]
 unfold A5
 congr 1
 refine List.map_congr_left λp _=>?_
 obtain⟨n,k⟩:=p
 dsimp only
 split<;>rfl
set_option tactic.hygienic true in
theorem UP:∀{names:List (Str×NameKind)} {n:Nat} {acc:List (Str×Addr)},(x,NameKind.cell)∉names->(cellsFrom n names acc).lookup x=acc.lookup x:=by
 intro Al
 induction Al with
 |nil=>
  intro _ _ _
  exact rfl
 |cons zx r zih=>
  obtain⟨y,k⟩:=zx
  intro n acc h
  unfold cellsFrom
  have h':(x,NameKind.cell)∉r:= λm=>h (List.mem_cons_of_mem _ m)
  split
  ·rename_i hk
   have hk:k=.cell:=by simpa using hk
   subst hk
   have ne:¬x=y:= λq=>h (by rw[q];exact List.mem_cons_self)
   rw[zih h',List.lookup_cons,show(x==y)=false by simpa using ne]
  ·exact zih h'
theorem nF{globals:Addr}{bi:Addr}{Q:Env->Shared->Prop}
 (k:Q (newEnv scope s.heap.objs.size globals (cellsFrom (s.heap.objs.size+1) scope.names cl) qual none .none (some env) bi) {s with heap:=pushCells (s.heap.push {cls:=.type "dict",data:=.dict #[]}) scope.names}):
 wpAny M A (newFunctionEnv scope globals cl [] qual none .none (some env) bi) Q E s:=by
 simp only[newFunctionEnv,Option.isSome_some,if_true]
 refine wpAny_bind (wpAny_alloc ?_)
 refine wpAny_bind (wpAny_layCells _ (λname kind cells=>by cases kind==NameKind.cell<;>simp) _ _ _ _ ?_)
 rw[List.forIn_nil]
 refine wpAny_bind (wpAny_pure (wpAny_pure ?_))
 rw[show({s with heap:=s.heap.push {cls:=.type "dict",data:=.dict #[]}}:Shared).heap.objs.size=s.heap.objs.size+1 from Heap.size_push ..]
 exact k
open Classical in
noncomputable def De(G:Gh)(h:Heap)(ρ:R)(scope:Scope)(env:Env):Addr->Option AP:= λa=>match G a with
 |some (.own x k)=>if Ay scope x=true/\k=0/\∃xs,ρ.get x=some (.ol xs) then some (.own x 0) else none
 |some .cell=>if ∃x,Ay scope x=true/\env.cells.lookup x=some a then(h.get? a).map AP.fro else none
 |_=>none
theorem JS{r:AP}(e:De G s.heap ρ scope env a=some r):(∃x xs,r=.own x 0/\G a=some (.own x 0)/\Ay scope x=true/\ρ.get x=some (.ol xs))∨∃o x,r=.fro o/\G a=some .cell/\s.heap.get? a=some o/\Ay scope x=true/\env.cells.lookup x=some a:=by
 unfold De at e
 revert e
 generalize G a=g
 cases g with
 |none=>exact λe=>Az e
 |some r'=>
  cases r' with
  |own x k=>exact λe=>(Classical.em (Ay scope x=true/\k=0/\∃xs,ρ.get x=some (.ol xs))).elim (λc=>c.2.2.elim λxs h=>.inl ⟨x,xs,(Option.some.inj ((if_pos c).symm.trans e)).symm,congrArg (λk=>some (AP.own x k)) c.2.1,c.1,h⟩) λc=>Az ((if_neg c).symm.trans e)
  |cell=>
   exact λe=>(Classical.em (∃x,Ay scope x=true/\env.cells.lookup x=some a)).elim (λc=>by
    refine Ak c λx h1 h2=>?_
    refine Ak (Fg ((if_pos c).symm.trans e)) λo ho z=>?_
    exact .inr ⟨o,x,z.symm,rfl,ho,h1,h2⟩) λc=>Az ((if_neg c).symm.trans e)
  |_=>exact λe=>Az e
theorem M9(h:Ay scope x=true):(x,NameKind.free)∈scope.names:=mem_of_lookup (Ib h)
theorem Nc(I:Inv c G s env ρ)(Ag:env.scope=sc)(hs:seen sc scope ρ=true):Lend G (G.lend (De G s.heap ρ scope env)) s.heap:=.of (λa r e=>by
 rcases JS e with⟨x,xs,rfl,g,_,_⟩|⟨o,x,rfl,g,ho,h1,h2⟩
 ·exact .inr ⟨x,0,x,0,rfl,g⟩
 ·refine .inl ⟨o,rfl,ho,λf q=>?_⟩
  refine SJ (Hn I Ag hs (M9 h1)) λv _ _ a' o' v' e1 e2 e3 _=>?_
  rw[h2] at e1;(revert e1;refine As λc0=>?_;subst c0)
  rw[ho] at e2;(revert e2;refine As λc0=>?_;subst c0)
  rw[e3] at q;injection q) (λa e=>by unfold De;rw[e]) (λa b p k e e'=>by
 rcases JS e with⟨x,xs,q,g,_,_⟩|⟨_,_,q,_⟩
 ·(injection q with c0 c1;subst c0;subst c1)
  rcases JS e' with⟨x,xs,q,g',_,_⟩|⟨_,_,q,_⟩
  ·(injection q with c0 c1;subst c0;clear c1);exact I.uniq _ _ _ _ g g'
  ·injection q
 ·injection q)
theorem ZJ:(R.mk (CT scope ρ) (Ay scope)).get x=if Ay scope x=true then ρ.get x else none:=PT (Ay scope) x ρ.vars
theorem bA(I:Inv c G s env ρ)(Ag:env.scope=sc)(hs:seen sc scope ρ=true)(hf:Ay scope x=true)(hx:ρ.get x=some v)(hl:v.lex?=none/\v.cit?=none)(z:OR c G s.heap x v v'):OR c (G.lend (De G s.heap ρ scope env)) s.heap x v v':=by
 have le:=(Nc I Ag hs).fro
 cases v with
 |ol xs=>
  revert z;refine DO λa vs Ar g hp V=>?_;obtain rfl:=Ar
  refine⟨a,vs,rfl,?_,hp,V.mono le⟩
  rw[Gh.lend_T g λ_ h=>AP.noConfusion h]
  unfold De;rw[g]
  exact if_pos ⟨hf,rfl,xs,hx⟩
 |lex=>cases hl.1
 |cit=>cases hl.2
 |clo=>exact CL.mono le z
 |_=>exact VR.mono le z
theorem PB:∀{names:List (Str×NameKind)} {n:Nat} {acc:List (Str×Addr)},(x,NameKind.cell)∈names->(cellsFrom n names acc).lookup x=some a->n<=a
 |(y,k)::r,n,acc,m,e=>by
  unfold cellsFrom at e
  by_cases h:(x,NameKind.cell)∈r
  ·split at e
   ·exact Nat.le_of_succ_le (PB h e)
   ·exact PB h e
  ·have q:=(List.mem_cons.mp m).resolve_right h
   (revert q;refine FI λc0 c1=>?_;subst c0;subst c1)
   rw[if_pos (by rfl),UP h,List.lookup_cons,beq_self_eq_true] at e
   (revert e;refine As λc0=>?_;subst c0);exact Nat.le_refl _
set_option tactic.hygienic true in
theorem fO(I:Inv c G s env ρ)(Ag:env.scope=sc)(hs:seen sc scope ρ=true)(hk:scope.kind=.function)(hl:∀p∈CT scope ρ,p.2.lex?=none/\p.2.cit?=none)(hc:∀p∈scope.names,p.2=.cell->scope.names.lookup p.1=some .cell)
 (HA:Dj={newEnv scope (s.heap.objs.size+1) mainGlobals (cellsFrom (s.heap.objs.size+1+1) scope.names (CO env scope.names [])) env.qual none .none (some env) builtinsNs with scope:=A5 sc scope}):
 Jp c (G.lend (De G s.heap ρ scope env)) s {s with heap:=pushCells ((s.heap.push o).push {cls:=.type "dict",data:=.dict #[]}) scope.names} Dj ⟨CT scope ρ,Ay scope⟩:=by
 have L:=Nc I Ag hs
 have z1:(s.heap.push o).objs.size=s.heap.objs.size+1:=Heap.size_push ..
 have z2:((s.heap.push o).push {cls:=.type "dict",data:=.dict #[]}).objs.size=s.heap.objs.size+1+1:=by rw[Heap.size_push,z1]
 have keep:∀a o',s.heap.get? a=some o'->(pushCells ((s.heap.push o).push {cls:=.type "dict",data:=.dict #[]}) scope.names).get? a=some o':= λa o' e=>pushCells_keeps _ _ _ _ (Heap.get?_push_of_some _ (Heap.get?_push_of_some _ e))
 have vJ:∀x a,(CO env scope.names []).lookup x=some a->a<s.heap.objs.size:= λx a e=>by
  rcases LC e with e'|⟨m,rfl⟩
  ·exact Az e'
  ·refine Qa (Hn I Ag hs m) λv _ _ a' o' v' e1 e2 _=>?_
   rw[e1];exact Heap.lt_size e2
 have cells:=kN scope.names ((s.heap.push o).push {cls:=.type "dict",data:=.dict #[]}) (CO env scope.names []) (s.heap.objs.size+1+1) (by rw[z2];exact Nat.le_refl _)
  (λx a e=>.inl (Nat.lt_succ_of_lt (Nat.lt_succ_of_lt (vJ x a e)))) λx y a e e'=>I.inj x y a (Kg I Ag hs e) (Kg I Ag hs e')
 rw[z2] at cells
 have kind:∀x,Dj.kindOf x=(scope.names.lookup x).map λk=>if k==.free&&sc.kind==.function&&sc.names.lookup x==some .cell then .cell else k:= λx=>by
  subst HA;exact jS
 have O6:Dj.cells=cellsFrom (s.heap.objs.size+1+1) scope.names (CO env scope.names []):=by subst HA;rfl
 have Mu:Dj.locals=s.heap.objs.size+1:=by subst HA;rfl
 have Xw:∀{x v},(R.mk (CT scope ρ) (Ay scope)).get x=some v->Ay scope x=true/\ρ.get x=some v:= λ{x v} e=>Un e
 refine⟨by rw[Mu];exact Nat.le_succ _,keep,rfl,I.stat.tok,by subst HA;exact hk,by subst HA;rfl,by subst HA;exact I.bi,⟨λ_=>none,?_,λx v e k=>?_⟩,λx v e=>?_,λx h k=>?_,λx a e=>?_,?_,λa p k e=>?_⟩
 ·rw[Mu]
  have n:=Heap.Ns.new (s.heap.push o) (.type "dict")
  rw[z1] at n
  exact n.keeps (pushCells_keeps _ _)
 ·obtain⟨hf,_⟩:=Xw e
  rw[kind,Ib hf] at k
  simp only[Option.map_some] at k
  split at k<;>(revert k;refine As λc0=>?_;injection c0)
 ·obtain⟨hf,hx⟩:=Xw e
  refine Ud (Hn I Ag hs (M9 hf)) λCo Hg _ a o' v' e1 e2 e3 e4 e5=>?_
  rw[hx] at Hg;(revert Hg;refine As λc0=>?_;subst c0)
  have m:(x,NameKind.cell)∉scope.names:= λm=>by
   have:=hc _ m rfl
   rw[Ib hf] at this;(revert this;refine As λc0=>?_;injection c0)
  obtain⟨a',ha'⟩:=Option.isSome_iff_exists.mp (Ub (env:=env) (x:=x) (acc:=[]) (.inl (M9 hf)))
  have q:=Kg I Ag hs ha'
  rw[e1] at q;(revert q;refine As λc0=>?_;subst c0)
  refine .inr ⟨?_,a,o',v',by rw[O6,UP m];exact ha',keep _ _ e2,e3,bA I Ag hs hf hx (hl _ (mem_of_lookup e)) e4,.inr ?_⟩
  ·rw[kind,Ib hf]
   simp only[Option.map_some]
   split
   ·exact .inl rfl
   ·exact .inr rfl
  ·rcases e5 with⟨g,_⟩|g
   ·rw[Gh.lend_T g λ_ h=>AP.noConfusion h]
    unfold De;rw[g]
    exact(if_pos ⟨x,hf,e1⟩).trans (by rw[e2];rfl)
   ·exact L.fro _ _ g
 ·rw[kind] at k
  have own:scope.names.lookup x=some .cell:=by
   cases q:scope.names.lookup x with
   |none=>rw[q] at k;cases k
   |some kd=>
    rw[q] at k
    simp only[Option.map_some] at k
    split at k
    ·rename_i hq
     have:kd=.free:=by
      simp only[Bool.and_eq_true,beq_iff_eq] at hq
      exact hq.1.1
     subst this
     have:Ay scope x=true:=by unfold Ay;rw[q]
     have h:Ay scope x=false:=h
     rw[this] at h;exact T0 h
    ·exact k
  obtain⟨a,ha⟩:=Option.isSome_iff_exists.mp (M7 (n:=s.heap.objs.size+1+1) (acc:=CO env scope.names []) (.inl (mem_of_lookup own)))
  rcases cells.1 x a ha with⟨lt,y,ey⟩|⟨ge,o',e,d⟩
  ·exact absurd lt (Nat.not_lt.mpr (PB (mem_of_lookup own) ha))
  ·exact⟨a,o',_,by rw[O6];exact ha,e,d,Nat.le_of_succ_le (Nat.le_of_succ_le ge),by rw[Mu];exact Nat.ne_of_gt ge⟩
 ·rw[O6] at e
  rcases cells.1 x a e with⟨_,y,e⟩|⟨_,o',e,_⟩
  ·obtain⟨o',e'⟩:∃o',s.heap.get? a=some o':=by
    rcases LC e with e'|⟨m,rfl⟩
    ·exact Az e'
    ·refine Qa (Hn I Ag hs m) λv _ _ a' o' v' e1 e2 _=>?_
     rw[e1];exact⟨o',e2⟩
   exact⟨o',keep a o' e'⟩
  ·exact⟨o',e⟩
 ·rw[O6];exact cells.2
 ·rcases Gh.lend_rl e with⟨_,q,_⟩|⟨q,_⟩
  ·injection q
  ·rcases JS q with⟨x,xs,q,g,hf,hx⟩|⟨_,_,q,_⟩
   ·(injection q with c0 c1;subst c0;subst c1)
    rw[ZJ,if_pos hf,hx];rfl
   ·injection q
set_option tactic.hygienic true in
theorem VE{C3:R}:∀{l:List (Str×AV)} {ρ ρ':R},IP C3 l ρ=some ρ'->ρ'.shut=ρ.shut/\(∀x,(ρ.get x).isSome=true->(ρ'.get x).isSome=true)/\
 (∀p∈l,(p.2.lex?=none/\p.2.cit?=none)/\∀xs,p.2=.ol xs->∃ys,C3.get p.1=some (.ol ys))/\
 ∀x u,ρ'.get x=some u->(ρ.get x=some u/\∀p∈l,p.1=x->∀xs,p.2≠.ol xs)∨((∃p∈l,p.1=x)/\∃ys,C3.get x=some (.ol ys)/\u=.ol ys):=by
 intro Al
 induction Al with
 |nil=>
  intro ρ _ h
  (revert h;refine As λc0=>?_;subst c0)
  exact⟨rfl,λ_ h=>h,λ_ m=>(nomatch m),λx u e=>.inl ⟨e,λ_ m=>(nomatch m)⟩⟩
 |cons p r ih=>
  intro ρ ρ' h
  unfold IP at h
  split at h
  ·rename_i xs hp
   have hp:=EK hp
   revert h;refine Ai λw hw h=>?_
   revert h;refine Ai λys hy h=>?_
   have hy:=EK hy
   subst hy
   refine IV (ih h) λz1 z2 z3 z4=>?_
   refine⟨z1,λx d=>z2 x (R.dom_set _ _ _ _ d),λq m=>?_,λx u e=>?_⟩
   ·rcases List.mem_cons.mp m with rfl|m
    ·rw[hp];exact⟨⟨rfl,rfl⟩,λ_ _=>⟨ys,hw⟩⟩
    ·exact z3 q m
   ·rcases z4 x u e with⟨e,n⟩|z
    ·rw[R.get_set] at e
     by_cases q:x=p.1
     ·rw[if_pos q] at e;(revert e;refine As λc0=>?_;subst c0)
      exact .inr ⟨⟨p,List.mem_cons_self,q.symm⟩,ys,q▸hw,rfl⟩
     ·rw[if_neg q] at e
      refine .inl ⟨e,λp' m e'=>?_⟩
      rcases List.mem_cons.mp m with rfl|m
      ·exact absurd e'.symm q
      ·exact n p' m e'
    ·exact .inr ⟨z.1.imp λp' h=>⟨List.mem_cons_of_mem _ h.1,h.2⟩,z.2⟩
  ·rename_i hp
   revert h;refine Ai λ_ hg h=>?_
   refine IV (ih h) λz1 z2 z3 z4=>?_
   have O7:∀xs,p.2≠.ol xs:= λxs e=>by rw[e] at hp;exact Ef hp
   refine⟨z1,z2,λq m=>?_,λx u e=>?_⟩
   ·rcases List.mem_cons.mp m with rfl|m
    ·refine⟨?_,λxs e=>absurd e (O7 xs)⟩
     have hg:=AI hg
     generalize q.2=v at hg
     cases v<;>first|exact⟨rfl,rfl⟩|exact Ck hg
    ·exact z3 q m
   ·rcases z4 x u e with⟨e,n⟩|z
    ·refine .inl ⟨e,λp' m e'=>?_⟩
     rcases List.mem_cons.mp m with rfl|m
     ·exact O7
     ·exact n p' m e'
    ·exact .inr ⟨z.1.imp λp' h=>⟨List.mem_cons_of_mem _ h.1,h.2⟩,z.2⟩
theorem Nx.void(c:Cx)(ρ:R)(G:Gh)(s:Shared):Nx c ρ G {s with heap:={s.heap with objs:= #[]}} ρ G s:=
 ⟨.refl _,λ_ _ _ h=>h,λ_ _ _ h _=>h,λ_ _ h=>(nomatch h),λ_ _ h=>(nomatch h),λ_ _ h=>h,rfl,λ_ h=>h⟩
theorem o4(I:Inv c G s env ρ)(Ag:env.scope=sc)(hs:seen sc scope ρ=true){si:Shared}{J:Addr}
 (S:Jp c (G.lend (De G s.heap ρ scope env)) s si Dj ⟨CT scope ρ,Ay scope⟩) (RI:si.os=s.os)
 (L:Fill c (λAo=>Ao.heap.get? J=none) (· =J) a ⟨CT scope ρ,Ay scope⟩ ((G.lend (De G s.heap ρ scope env)).enter s.heap.objs.size Dj) si Cj Go so) (Io:Inv c Go so Dj Cj) (C:Acc c Go so.heap a acc)
 (ha:s.heap.get? a=none) (hJ:G J=none) (hb:IP Cj (CT scope ρ) ρ=some ρ'):
 (∀AH AC Ao,Ao.heap.get? J=none->Nx c AH AC Ao ρ G s->Nx c AH AC Ao ρ' (G.back Go) so)/\Inv c (G.back Go) so env ρ'/\G.back Go a=none/\∃vs,PL so.heap a vs/\VRs (G.back Go) acc vs.toList:=by
 have Ld:=Nc I Ag hs
 have Ii:=enter I Ld S
 have M:=L.tr _ _ _ rfl rfl (Nx.void c ⟨CT scope ρ,Ay scope⟩ ((G.lend (De G s.heap ρ scope env)).enter s.heap.objs.size Dj) si)
 refine IV (VE hb) λb1 b2 b3 b4=>?_
 have tZ:∀{l:List (Str×AV)} {x:Str},(∃p∈l,p.1=x)->(l.lookup x).isSome=true:= λ{l x}=>by
  induction l with
  |nil=>rintro⟨_,m,_⟩;cases m
  |cons q r ih=>
   rintro⟨p,m,e⟩
   rw[List.lookup_cons]
   by_cases h:x=q.1
   ·rw[h,beq_self_eq_true];rfl
   ·rw[show(x==q.1)=false by simpa using h]
    exact ih ((List.mem_cons.mp m).elim (λz=>absurd (z▸e).symm h) λm=>⟨p,m,e⟩)
 have gb:∀{b p k},G.lend (De G s.heap ρ scope env) b=some (.own p k)->∃xs,k=0/\G b=some (.own p 0)/\Ay scope p=true/\ρ.get p=some (.ol xs)/\(p,AV.ol xs)∈CT scope ρ:= λ{b p k} e=>by
  rcases Gh.lend_rl e with⟨_,q,_⟩|⟨q,_⟩
  ·injection q
  ·rcases JS q with⟨x,xs,q,g,h1,h2⟩|⟨_,_,q,_⟩
   ·(injection q with c0 c1;subst c0;subst c1)
    refine⟨xs,rfl,g,h1,h2,mem_of_lookup (show(CT scope ρ).lookup p=_ from ?_)⟩
    rw[show(CT scope ρ).lookup p=_ from PT (Ay scope) p ρ.vars,if_pos h1];exact h2
   ·injection q
 have again:∀x ys,(∃p∈CT scope ρ,p.1=x)->Cj.get x=some (.ol ys)->∃l xs vs,ρ.get x=some (.ol xs)/\G l=some (.own x 0)/\Go l=some (.own x 0)/\PL so.heap l vs/\VRs Go ys vs.toList:= λx ys m h=>by
  obtain⟨v',z⟩:=Io.or h
  revert z;refine DO λl vs Ar gl hp V=>?_;obtain rfl:=Ar
  have g:=M.own l x 0 gl (tZ m)
  by_cases D4:l<s.heap.objs.size
  ·rw[Gh.enter_lt D4] at g
   refine Ql (gb g) λxs _ g' _ h2 _=>?_
   exact⟨l,xs,vs,h2,g',gl,hp,V⟩
  ·rcases Gh.enter_rl D4 g with⟨_,q⟩|⟨_,q⟩<;>injection q
 have nt:∀{b},c.isTab b->Go b=none:= λ{b} ⟨t,m,q⟩=>(Io.stat.old b _ (q▸(I.stat.tab t m).2)).elim id λz=>absurd ⟨t,m,q⟩ z.2
 have na:∀{b o},s.heap.get? b=some o->b≠a:= λ{b o} e q=>by rw[q,ha] at e;exact Az e
 have kp:∀b o,¬b=J->s.heap.get? b=some o->G.lend (De G s.heap ρ scope env) b=none->¬c.isTab b->so.heap.get? b=some o/\Go b=none:= λb o nj e g t=>
  L.keep b o nj (na e) (S.keep b o e) ((Gh.enter_lt (Heap.lt_size e)).trans g) t
 have own:∀b p k,G.lend (De G s.heap ρ scope env) b=some (.own p k)->∃q j,Go b=some (.own q j):= λb p k e=>by
  refine Ql (gb e) λxs Bc g _ hx m=>?_;obtain rfl:=Bc
  obtain⟨ys,hy⟩:=(b3 _ m).2 xs rfl
  refine D3 (again p ys ⟨_,m,rfl⟩ hy) λl _ _ _ gl JF _=>?_
  obtain rfl:=I.uniq _ _ _ _ g gl
  exact⟨_,_,JF⟩
 have K:Came c (· =J) G (G.lend (De G s.heap ρ scope env)) s so Go:=by
  have le:(G.lend (De G s.heap ρ scope env)).Le Go:= λb o e=>M.le b o ((Gh.enter_lt (Ld.low I e)).trans e)
  refine⟨λb w=>w▸hJ,le,λb o nj e g=>?_,own,λb o nj e g t=>(kp b o nj e g t).1,λb o nj e=>?_,λi x e=>M.gens i x (by show si.gens[i]? =_;rw[S.gens];exact e),M.os.trans RI,Io.stat,Io.fro,Io.low⟩
  ·by_cases t:c.isTab b
   ·exact nt t
   ·exact(kp b o nj e g t).2
  ·cases g:G.lend (De G s.heap ρ scope env) b with
   |none=>
    by_cases t:c.isTab b
    ·revert t;refine Cw λt m Ar=>?_;obtain rfl:=Ar
     exact(Io.stat.tab t m).1.elim λ_ z=>⟨_,z.1⟩
    ·exact⟨o,(kp b o nj e g t).1⟩
   |some r=>
    rcases Ld.rl b r g with⟨o',rfl,_⟩|⟨p,k,x,j,rfl,_⟩
    ·exact⟨o',Io.fro _ _ (le _ _ g)⟩
    ·refine EU (own b p k g) λq j z=>?_
     exact Io.low _ _ z
 have sq:Go.Seq (G.back Go):=Q1 I Ld K λb C vs m e=>by
  rcases Gh.lend_rl e with⟨_,q,z⟩|⟨q,_⟩
  ·(injection q with c0;subst c0);exact z
  ·rcases JS q with⟨x,xs,q,_⟩|⟨o,x,q,g,ho,h1,h2⟩
   ·injection q
   ·(injection q with c0;subst c0)
    refine SJ (Hn I Ag hs (M9 h1)) λv _ _ a' o' v' e1 e2 e3 _=>?_
    rw[h2] at e1;(revert e1;refine As λc0=>?_;subst c0)
    rw[ho] at e2;(revert e2;refine As λc0=>?_;subst c0)
    injection e3
 obtain⟨Z1,Z2⟩:=Rq I Ld K b2 b1 λx u e=>by
  rcases b4 x u e with⟨e,O7⟩|⟨m,ys,hy,rfl⟩
  ·refine⟨u,e,λv' z=>Qk I Ld K (λb k g p j q=>?_) z⟩
   obtain⟨xs,_,g',_,_,m⟩:=gb q
   rw[g] at g';(revert g';refine As λc0=>?_;injection c0 with c1 c2;subst c1;subst c2)
   exact O7 _ m rfl xs rfl
  ·obtain⟨l,xs,vs,hx,gl,JF,hp,V⟩:=again x ys m hy
   refine⟨.ol xs,hx,λv' z=>?_⟩
   obtain⟨l',_,rfl,g',_⟩:=z
   obtain rfl:=I.uniq _ _ _ _ gl g'
   exact⟨l,vs,rfl,Gh.back_some gl,hp,V.seq sq⟩
 refine Ak (C.list) λvs hp V=>?_
 refine⟨λAH AC Ao d N=>Z1 AH AC Ao (λb e=>e▸d) N,Z2,?_,vs,hp,V.seq sq⟩
 unfold Gh.back;rw[I.fresh ha,C.nor]
theorem YU(h:∀x,(ρ.get x).isSome=true->(ρ'.get x).isSome=true)(hs:seen sc scope ρ=true):seen sc scope ρ'=true:=by
 refine List.all_eq_true.mpr λp m=>?_
 have:=List.all_eq_true.mp hs p m
 split at this
 ·obtain⟨a,b⟩:=Bool.and_eq_true_iff.mp this
  exact Bool.and_eq_true_iff.mpr ⟨h _ a,b⟩
 ·rfl
theorem mC:∀{names:List (Str×NameKind)} {n:Nat} {acc:List (Str×Addr)},(cellsFrom n names acc).lookup x=some a->n<=a∨∃y,acc.lookup y=some a:=by
 intro Al
 induction Al with
 |nil=>
  intro _ _ e
  exact .inr ⟨x,e⟩
 |cons zx r zih=>
  obtain⟨y,k⟩:=zx
  intro n acc e
  unfold cellsFrom at e
  split at e
  ·rcases zih e with h|⟨z,h⟩
   ·exact .inl (Nat.le_of_succ_le h)
   ·rw[List.lookup_cons] at h
    split at h
    ·(revert h;refine As λc0=>?_;subst c0);exact .inl (Nat.le_refl _)
    ·exact .inr ⟨z,h⟩
  ·exact zih e
set_option tactic.hygienic true in
theorem UT(T:Bx c top)(hr:Bd prog w c n r)(hA:OkA A n)(Ag:Cu c sc env)(h:LN r sc elt gs scope ρ=some (acc,ρ'))(I:Inv c G s env ρ)
 (k:∀G' s' a vs C,Nx c ρ G s ρ' G' s'->Inv c G' s' env ρ'->Kt c G' s s' a acc vs->G' C=none->c.base.get? C=none->s.heap.get? C=none->a≠C->(∃m,s'.heap.Ns C m)->compPost (model prog w) A E use Q (.ref a) C (.ok .next) s'):
 wpAny (model prog w) A (comprehension (.ListComp elt gs scope pos) scope env (firstIterPos gs pos) (newList []) (firstAsync gs) (firstIter gs env) use) Q E s:=by
 unfold LN at h
 split at h
 ·exact Az h
 ·rename_i g Df
  revert h;refine Ai λ_ hg h=>?_
  revert h;refine Bv λits Aw hi h=>?_
  revert h;refine Bv λFw Cj hc h=>?_
  revert h;refine Ai λB8 hb h=>?_
  (revert h;refine AO λc1 c2=>?_;subst c1;subst c2)
  obtain⟨hg,g5⟩:=Bool.and_eq_true_iff.mp (AI hg)
  obtain⟨hg,g4⟩:=Bool.and_eq_true_iff.mp hg
  obtain⟨hg,g3⟩:=Bool.and_eq_true_iff.mp hg
  obtain⟨g1,g2⟩:=Bool.and_eq_true_iff.mp hg
  have hk:scope.kind=.function:=by simpa using g3
  have ha:∀g'∈g::Df,g'.is_async=0/\BI g'.iter=true:= λg' m=>by
   obtain⟨a,b⟩:=Bool.and_eq_true_iff.mp (List.all_eq_true.mp g4 g' m)
   exact⟨by simpa using a,b⟩
  have hn:∀p∈scope.names,scope.names.lookup p.1=some p.2:= λp m=>by simpa using List.all_eq_true.mp g5 p m
  have hf:firstAsync (g::Df)=false:=by
   have:=(ha _ List.mem_cons_self).1
   have e:firstAsync (g::Df)=(g.is_async != 0):=by cases g;rfl
   rw[e,this];rfl
  have uY:firstIter (g::Df) env=eval g.iter env:=by cases g;rfl
  rw[hf,uY]
  refine wpAny_comprehension_free (cl:=CO env scope.names []) rfl (λx=>IK (ha g List.mem_cons_self).2) (QT I Ag.1 g2) hk (λp m e=>e▸hn p m) (PO T hr hA Ag hi I (.refl ..) λAY A4 J A8 Ax Ea dJ NJ=>?_)
  refine wpAny_newObj_type (hd:=by size_fits) ?_
  have hs:=YU A8.dom g2
  have d1:A4.heap.get? A4.heap.objs.size=none:=Heap.get?_none_of_le (Nat.le_refl _)
  have z1:∀o,(A4.heap.push o).objs.size=A4.heap.objs.size+1:= λo=>Heap.size_push ..
  rw[Ax.gl]
  refine nF ?_
  rw[z1]
  have sL:relabel scope env=A5 sc scope:=by rw[<-Ag.1];rfl
  rw[sL]
  generalize HA:({newEnv scope (A4.heap.objs.size+1) mainGlobals (cellsFrom (A4.heap.objs.size+1+1) scope.names (CO env scope.names [])) env.qual none .none (some env) builtinsNs with scope:=A5 sc scope}:Env)=Dj
  have qI:=VE hb
  have S:=fO Ax Ag.1 hs hk (λp m=>(qI.2.2.1 p m).1) (λp m e=>e▸hn p m) (o:={cls:=.type "list",dict:=none,data:=.seq ([]:List Value).toArray}) HA.symm
  obtain⟨sc',cl',ec⟩:Dj.scope=A5 sc scope/\Dj.locals=A4.heap.objs.size+1/\Dj.cells=cellsFrom (A4.heap.objs.size+1+1) scope.names (CO env scope.names []):=by subst HA;exact⟨rfl,rfl,rfl⟩
  have Ld:=Nc Ax Ag.1 hs
  have Ii:=enter Ax Ld S
  have FZ:Cu c (A5 sc scope) Dj:=⟨sc',λf e=>by rw[e] at g1;exact Ck g1⟩
  have uH:∀x a,Dj.cells.lookup x=some a->a≠A4.heap.objs.size:= λx a e q=>by
   rw[ec] at e
   subst q
   rcases mC e with h|⟨y,e⟩
   ·exact absurd h (Nat.not_le.mpr (Nat.lt_succ_of_lt (Nat.lt_succ_self _)))
   ·have e':(CO env scope.names []).lookup y=some A4.heap.objs.size:=e
    rcases LC e' with e'|⟨m,q⟩
    ·exact Az e'
    ·refine Qa (Hn Ax Ag.1 hs m) λv _ _ a' o' v' e1 e2 _=>?_
     rw[e1] at q
     obtain rfl:_=a':=q
     rw[d1] at e2;exact Az e2
  have vV:A4.heap.get? J≠none:= λq=>by obtain⟨o,e⟩:=NJ.live;rw[q] at e;exact Az e
  have X2:J<A4.heap.objs.size:=by obtain⟨o,e⟩:=NJ.live;exact Heap.lt_size e
  have tC:AY.lend (De AY A4.heap Aw scope env) J=none:=Ld.nor J NJ.nor
  have rD:(AY.lend (De AY A4.heap Aw scope env)).enter A4.heap.objs.size Dj A4.heap.objs.size=none:=by
   unfold Gh.enter
   rw[if_neg (Nat.lt_irrefl _),if_neg (by rw[cl'];exact Nat.ne_of_lt (Nat.lt_succ_self _)),if_neg]
   rintro⟨x,e⟩
   exact uH x _ e rfl
  have dC:A4.heap.get? (A4.heap.objs.size+1)=none:=Heap.get?_none_of_le (Nat.le_succ _)
  generalize hsi:({A4 with heap:=pushCells ((A4.heap.push {cls:=.type "list",dict:=none,data:=.seq ([]:List Value).toArray}).push {cls:=.type "dict",data:=.dict #[]}) scope.names}:Shared)=si at S Ii
  have C0:Acc c ((AY.lend (De AY A4.heap Aw scope env)).enter A4.heap.objs.size Dj) si.heap A4.heap.objs.size []:=by
   refine⟨rD,Ax.baseNone d1,#[],⟨0,?_⟩,.nil⟩
   subst hsi
   exact pushCells_keeps _ _ _ _ (Heap.get?_push_of_some _ (Heap.get?_push_size _ rfl))
  have FJ:Fu c (· =J) AY A4 ((AY.lend (De AY A4.heap Aw scope env)).enter A4.heap.objs.size Dj) si:=by
   refine⟨λb o e=>(Gh.enter_lt (Ld.low Ax (Ld.fro _ _ e))).trans (Ld.fro _ _ e),λb o e e' _ _=>⟨S.keep b o e',?_⟩⟩
   subst e
   exact(Gh.enter_lt X2).trans tC
  have go:codeAny (model prog w) A (.compLoop (.ListComp elt (g::Df) scope pos) 0 (.ref J) (.ref A4.heap.objs.size) Dj) (compPost (model prog w) A E use Q (.ref A4.heap.objs.size) (A4.heap.objs.size+1)) si:=by
   refine Zz T hr hA FZ ha Df 0 g rfl hc (NJ.it.later FJ) (λq=>Nat.lt_irrefl _ (q▸X2)) Ii C0 λGo so L Io C=>?_
   refine nT (o4 Ax Ag.1 hs S (by subst hsi;rfl) L Io C d1 NJ.nor hb) λZ1 Z2 na vs hp V=>?_
   have fr:=Io.frame
   rw[cl'] at fr
   refine k (AY.back Go) so A4.heap.objs.size vs (A4.heap.objs.size+1) (Z1 _ _ _ dJ A8) Z2 ⟨na,hp,A8.dead d1,Ax.baseNone d1,V⟩ ?_ (Ax.baseNone dC) (A8.dead dC) (Nat.ne_of_lt (Nat.lt_succ_self _)) ?_
   ·unfold Gh.back;rw[Ax.fresh dC,fr]
   ·refine Ak (Io.ns) λm hn _=>?_
    rw[cl'] at hn
    exact⟨m,hn⟩
  have uB:=Wn (prog:=prog) (w:=w) (A:=A) (s:=si) (env:=Dj) (elt:=elt) (scope:=scope) (pos:=pos) (gens:=g::Df) (d:=0) (it:=.ref J) (acc:=.ref A4.heap.objs.size) (R':=compPost (model prog w) A E use Q (.ref A4.heap.objs.size) (A4.heap.objs.size+1)) rfl (ha g List.mem_cons_self).1 go (NJ.self A _ _ si Dj _ _ hA.1 FJ Ii go)
  subst hsi
  exact uB
theorem Pu(N:Nx c AH AC Ao ρ' G' s')(I:Inv c G' s' env ρ')(g:G' C=none)(b:c.base.get? C=none)(d:Ao.heap.get? C=none)(sb:Heap.SameBut C s'.heap h'):
 Nx c AH AC Ao ρ' G' {s' with heap:=h'}/\Inv c G' {s' with heap:=h'} env ρ':=by
 have hk:∀a o,a∉[C]->s'.heap.get? a=some o->h'.get? a=some o:= λa o m e=>(sb.2 a λq=>m (List.mem_singleton.mpr q)).trans e
 exact⟨N.loose (W:=[C]) (s'':={s' with heap:=h'}) (λa m=>by rw[List.mem_singleton.mp m];exact d) hk (λ_ _ e _=>e) rfl,I.loose (W:=[C]) (λa m=>by rw[List.mem_singleton.mp m];exact⟨g,b⟩) hk I.stat.bare I.stat.tok⟩
theorem FE.comp(T:Bx c top)(hr:Bd prog w c n r)(h:LN r sc elt gs scope ρ=some (xs,ρ')):FE prog w c n sc (.ListComp elt gs scope pos) ρ xs ρ':=by
 intro A env G s Q E hA Ag I k
 rw[eval_ListComp]
 refine UT T hr hA Ag h I λG' s' a vs C N' I' F gC bC dC ne hn=>⟨hn.choose,hn.choose_spec,λh' sb=>?_⟩
 obtain⟨A8,Ax⟩:=Pu N' I' gC bC dC sb
 exact k G' _ a vs A8 Ax ⟨F.nor,F.at'.to λo e=>(sb.2 a ne).trans e,F.ge,F.base,F.vrs⟩
theorem FE.fresh(T:Bx c top)(hr:Bd prog w c n r)(h:GL r sc e ρ=some (xs,ρ')):FE prog w c n sc e ρ xs ρ':=by
 cases e with
 |List es q1=>
  exact FE.list hr h
 |ListComp elt gs scope q1=>
  exact FE.comp T hr h
 |_=>
  exact Az h
theorem iD{p:Pos}{l:Nat}:∃b,swapsWith (.ListComp elt gs scope pos) (some (.Name x p)) l env=pure b:=⟨_,rfl⟩
theorem Vo{vs:Array Value}(N:Nx c AH AC Ao ρ' G' s')(I:Inv c G' s' env ρ')(F:Kt c G' Ao s' a xs vs){B8:R}
 (h:(if IX x=true then(do AG (ρ'.get x).isNone;Cy sc x (.ol xs) ρ') else Cy sc x (.list xs) ρ')=some B8):
 ∃v Av,Cy sc x v ρ'=some B8/\Nx c AH AC Ao ρ' Av s'/\Inv c Av s' env ρ'/\∃AY,Gr c Ao Av s' ρ' x AY/\OR c AY s'.heap x v (.ref a)/\∀C,G' C=none->a≠C->Av C=none/\AY C=none:=by
 split at h
 ·revert h;refine Ai λ_ hg h=>?_
  obtain⟨g,o⟩:=Vz I N F (Option.isNone_iff_eq_none.mp (AI hg))
  exact⟨_,G',h,N,I,_,g,o,λC e ne=>⟨e,(Gh.put_ne ne.symm).trans e⟩⟩
 ·obtain⟨m,e⟩:=F.at'
  have J:=I.put F.nor e F.base
  exact⟨_,_,h,N.put F.ge F.nor,J,_,J.gr _ _,(VR.list (Gh.put_self ..) (F.vrs.mono (Gh.le_put F.nor))).or,λC e ne=>⟨(Gh.put_ne ne.symm).trans e,(Gh.put_ne ne.symm).trans e⟩⟩
theorem SX.make(T:Bx c top)(hr:Bd prog w c n r){p:Pos}(hm:Ih e=true)(hv:GL r sc e ρ=some (xs,Aw))
 (h:(if IX x=true then(do AG (Aw.get x).isNone;Cy sc x (.ol xs) Aw) else Cy sc x (.list xs) Aw)=some ρ'):SX prog w c n sc (.Assign [.Name x p] e pos) ρ .next ρ':=by
 intro A env G s Q E hA Ag I k
 have plain:swapsWith e (some (.Name x p)) pos.line env=pure false->wpAny (model prog w) A (exec (.Assign [.Name x p] e pos) env) Q E s:= λhs=>by
  refine wpAny_Assign_Name (FE.fresh T hr hv A env G s _ _ hA Ag I λAv Ad a vs Au An F=>?_) hs
  refine Ui (Vo Au An F h) λv AY hb A8 Ax Cq g o _=>?_
  exact GG Ax A8 Ag.1 hb g o λAU AM Bf=>k _ _ _ AM Bf trivial
 cases e with
 |List es cp=>
  exact plain rfl
 |ListComp elt gs scope cp=>
  obtain⟨b,hs⟩:=iD (elt:=elt) (gs:=gs) (scope:=scope) (pos:=cp) (x:=x) (p:=p) (l:=pos.line) (env:=env)
  cases b with
  |false=>exact plain hs
  |true=>
   rw[exec_Assign_Name_used x p _ pos hs]
   refine wpAny_bind (wpAny_standAt (wpAny_bind ?_))
   show wpAny (model prog w) A (comprehension (.ListComp elt gs scope cp) scope env (firstIterPos gs cp) (newList []) (firstAsync gs) (firstIter gs env) (some (assign (.Name x p) env))>>= λ_=>pure ()) _ E s
   refine wpAny_bind (UT T hr hA Ag hv I λAv Ad a vs C Au An F gC bC dC ne hn=>?_)
   refine Ui (Vo Au An F h) λv AY hb A8 Ax Cq g o hC=>?_
   obtain⟨g2,g3⟩:=hC C gC ne
   refine wpAny_assign_Name (SR Ax A8 Ag.1 hb g o λAU b AM Bf rb sb=>?_)
   have r9:C≠b:= λq=>by subst q;rcases rb with z|z<;>rw[g2] at z<;>exact Az z
   refine⟨hn.choose,hn.choose_spec.at' λo e=>(sb.2 C r9).trans e,λh' rF=>?_⟩
   obtain⟨Ec,Di⟩:=Pu AM Bf g3 bC dC rF
   exact wpAny_pure (wpAny_pure (k _ _ _ Ec Di trivial))
 |_=>
  exact Ck hm
theorem mJ(h:(G3 e).isSome=true):∃f a k p,e=.Call f a k p:=by
 obtain⟨t,e⟩:=Wr h;exact⟨_,_,_,_,e⟩
theorem SX.tup(hr:Bd prog w c n r)(hn:Eg t=none)(hc:(G3 e).isSome=true)(hv:r.e sc e ρ=some (v,Aw))(h:BS sc t v Aw=some ρ'):SX prog w c n sc (.Assign [t] e pos) ρ .next ρ':=by
 intro A env G s Q E hA Ag I k
 have ht:∃ts k p,t=.Tuple ts k p:=by
  unfold BS at h
  rw[hn] at h
  refine AL h λts ht _=>?_
  refine EU (QP ht) λk p Ar=>?_;obtain rfl:=Ar
  exact⟨_,_,_,rfl⟩
 revert ht;refine iY λts kk tp B2=>?_;obtain rfl:=B2
 refine MW (mJ hc) λf a kw p Fy=>?_;obtain rfl:=Fy
 refine Assign_Tuple ((hr.e _ _ _ _ _ hv).then hA Ag I (.refl ..) λAv Ad v' Au An B5 Bj=>?_)
 exact UM hA.1 Ag.1 h An Au Bj λA4 A8 Ax=>k _ _ _ A8 Ax trivial
noncomputable def LI:List Str:=["lineno","instream","whitespace","pushback","read"]
structure ClsK (w:World) (c:Cx) (top:List Stmt) (K:Frag):Prop where
 kin:∀a o,K.lookup a=some o->c.base.get? a=some o/\¬c.isTab a
 hP:c.P=w.params
 dict:hasDictIn K c.C=true
 ga:findIn K (.ref c.C) "__getattribute__"=some (some (.builtin "object.__getattribute__"))
 gt:findIn K (.ref c.C) "__getattr__"=some none
 sa:findIn K (.ref c.C) "__setattr__"=some (some (.builtin "object.__setattr__"))
 over:plainOver K c.C=true
 plain:∀f∈LI,findIn K (.ref c.C) f=some none
 meth:∀m d,B4 (CW top) m=some d->∃a o fd,findIn K (.ref c.C) m=some (some (.ref a))/\typeIn K (.ref a)=some (.type "function")/\Ei c d a o fd
 makes:makesIn K c.C=true
 keep:keepIn K (.ref c.C)=true
 glob:c.mg "_netrclex"=some (.ref c.C)
 list:c.mg "list"=none/\c.mb "list"=some (.type "list")
 htop:top=PySem.Challenge.pw_sc0059_01.main.body
 rd:∃a,c.rd=some (.ref a)/\findIn K (.ref c.C) "_read_char"=some (some (.ref a))/\typeIn K (.ref a)=some (.type "function")
section
variable {K:Frag}
theorem ClsK.here(C:ClsK w c top K)(I:Inv c G s env ρ):K.In s.heap:= λa o e=>I.stat.keep _ _ (C.kin a o e).1 (C.kin a o e).2
noncomputable def FH(c:Cx)(line:Int)(L:JT):Obj:={cls:=.type "dict",data:=.dict (Gf c.P L.ts (.int line L.t) (.ref L.st) (.str "\n\t\r " L.tw) (.ref L.p)).toArray L.n}
theorem LXs.inst{push signs:List AV}(X:LXs c G h x line push signs L):InstAt h L.a (instObj c.C L.d) c.C (some (FH c line L)):=⟨X.ha,rfl,rfl,X.hd⟩
theorem KA(C:ClsK w c top K)(I:Inv c G s env ρ){push signs:List AV}(X:LXs c G s.heap x line push signs L){f:Str}{v:Value}(hf:f∈LI)(hl:lookIn f (FH c line L)=some (some v))(hh:handedIn v=true)
 {Q:Value->Shared->Prop} (h:Q v {s with toks:=s.toks+1}):wpAny (model prog w) A (getAttr (.ref L.a) f ex) Q E s:=
 get_value (C.here I) X.inst C.ga (findObj_own C.dict (C.plain f hf) rfl hl) hh h
theorem Wg:lookIn "lineno" (FH c line L)=some (some (.int line L.t)):=by rfl
theorem oO:lookIn "whitespace" (FH c line L)=some (some (.str "\n\t\r " L.tw)):=by rfl
theorem SA:lookIn "pushback" (FH c line L)=some (some (.ref L.p)):=by rfl
theorem jT:lookIn "instream" (FH c line L)=some (some (.ref L.st)):=by rfl
set_option tactic.hygienic true in
theorem SE.attr(C:ClsK w c top K){f:Str}{p:Pos}(h:IJ r top sc (.Attribute (.Name x p) f pos) ρ=some (v,ρ')):SE prog w c n sc (.Attribute (.Name x p) f pos) ρ v ρ':=by
 refine Ak (CP h) λBB hx h=>?_;obtain⟨x',l,q,t⟩:=BB
 obtain⟨⟨q',he⟩,hx⟩:=HS hx
 intro A env G s Q E hA Ag I k
 (injection he with c0 c1;subst c0;subst c1)
 refine Attribute_name (CF I hx λv' z=>?_)
 revert z;refine Cw λL Bc X=>?_;obtain rfl:=Bc
 dsimp only at h
 split at h
 ·rename_i hf
  (revert h;refine AO λc1 c2=>?_;subst c1;subst c2);subst hf
  exact KA C I X (by decide) Wg rfl (k _ _ _ (.toks _) (I.toks _) .int)
 ·revert h;refine Ai λ_ hg h=>?_
  (revert h;refine AO λc1 c2=>?_;subst c1;subst c2)
  obtain rfl:=of_decide_eq_true (AI hg)
  exact KA C I X (by decide) oO rfl (k _ _ _ (.toks _) (I.toks _) .str)
theorem ST.push(C:ClsK w c top K){o:PySem.Expr}{f:Str}{b:Bool}(h:Rj r sc (.Attribute o f pos) ρ=some (b,ρ')):ST prog w c n sc (.Attribute o f pos) ρ b ρ':=by
 refine Ak (CP h) λBB hx h=>?_;obtain⟨x',l,q,t⟩:=BB
 revert h;refine Ai λ_ hg h=>?_
 (revert h;refine AO λc1 c2=>?_;subst c1;subst c2)
 obtain⟨⟨q',he⟩,Ha⟩:=HS hx
 subst he
 obtain⟨rfl,DK⟩:=of_decide_eq_true (AI hg)
 intro A env G s Q E hA Ag I k
 refine wpAny_isTrue_value (Attribute_name (CF I Ha λv' z=>?_)) rfl
 revert z;refine Cw λL Bc X=>?_;obtain rfl:=Bc
 refine KA C I X (by decide) SA rfl ?_
 refine Fe (X.push) λa vs e ga Fy B0=>?_;obtain⟨m,ha⟩:=Fy
 (injection e with c0;subst c0)
 have e:q.length=vs.size:=B0.length
 refine wpAny_truthy_list ⟨_,ha,rfl,m,rfl⟩ ?_ ?_
 ·rw[<-e];unfold Bg at DK;omega
 ·have e:vs.isEmpty=q.isEmpty:=by
   rw[Array.isEmpty,<-e]
   cases q<;>rfl
  rw[e]
  exact k _ _ ((Nx.toks _).trans (.toks _)) ((I.toks _).toks _)
end
section
variable {K:Frag}
theorem k7{name:Str}(h:findIn K (.ref C) name=some none):takerIn K C name=some none:=by unfold takerIn;rw[h];rfl
set_option tactic.hygienic true in
theorem QN{x dx:Addr}{name:Str}{v:Value}{es:List DictEntry}{m:Nat}{Q:Unit->Shared->Prop}(X:K.In s.heap)(hx:s.heap.get? x=some (instObj C dx))(D:s.heap.get? dx=some (dictOf es m))
 (hs:findIn K (.ref C) "__setattr__"=some (some (.builtin "object.__setattr__"))) (hp:plainOver K C=true) (hf:findIn K (.ref C) name=some none) (hh:hasDictIn K C=true)
 (hl:(getL name es).isSome=true) (hz:es.length<=900)
 (h:Q () {s with heap:=s.heap.update dx (Obj.putName name (PyData.keyHash w.params name) (.str name (s.toks+1)) v),toks:=s.toks+2}):
 wpAny (model prog w) A (setAttr (.ref x) name v) Q E s:=by
 have I:InstAt s.heap x (instObj C dx) C (some (dictOf es m)):=⟨hx,rfl,rfl,D⟩
 refine set_plain X I hs (osa_open (s:={s with toks:=s.toks+1}) X I hp (k7 hf) λb=>?_)
 refine Ak (any_some hh) λcd hc FS=>?_
 have D':(s.heap.update dx (Obj.putName name (PyData.keyHash w.params name) (.str name (s.toks+1)) v)).get? dx=some (dictOf (putL name (PyData.keyHash w.params name) (.str name (s.toks+1)) v es) (putN name es m)):=by
  rw[<-putName_dict]
  exact Heap.get?_update_self _ D (by rw[putName_dict];rfl)
 refine wpAny_bind (wpAny_pure (wpAny_bind (wpAny_bind (wpAny_loadPart hx (wpAny_bind ((looks_clsIn (h:=s.heap) X hc).at ?_))))))
 rw[FS]
 refine wpAny_pure (a:=some dx) (wpAny_bind (wpAny_pure (wpAny_bind ?_)))
 unfold nsSet
 refine wpAny_bind (wpAny_bind (wpAny_askSetting (wpAny_pure (wpAny_bind (wpAny_mkText (wpAny_bind (wpAny_loadPart D ?_)))))))
 have hq:(!(es.toArray).any (·.key.isStr name)&&(es.toArray).any (·.refKey))=false:=by
  unfold getL at hl
  rw[List.any_toArray,List.any_toArray]
  split at hl
  ·rename_i en he
   rw[List.any_eq_true.mpr ⟨en,List.mem_of_find?_eq_some he,List.find?_some he⟩];rfl
  ·split at hl
   ·exact Ck hl
   ·rename_i z;rw[Bool.not_eq_true] at z;rw[z,Bool.and_false]
 dsimp only[dictOf]
 rw[aRefKeyMayBeTheName_at,hq]
 refine wpAny_updatePart D ?_
 refine wpAny_bind (wpAny_lookBehind D' (pastItsLine_dict ?_) ?_)
 ·have:∀(l:List DictEntry),(putL name (PyData.keyHash w.params name) (.str name (s.toks+1)) v l).length<=l.length+1:= λl=>by
   induction l with
   |nil=>exact Nat.le_refl _
   |cons a l ih=>
    unfold putL
    split
    ·exact Nat.le_succ _
    ·exact Nat.succ_le_succ ih
  have:=this es
  rw[List.size_toArray,sizeLine_eq];exact Ac 0x14c4121000000731114a412011114a3843301 Aa this hz
 ·exact wpAny_pure h
theorem OL.same{v:Value}(hk:∀a o,G a=some (.own x k)->h.get? a=some o->h'.get? a=some o)(y:OL G h x k xs v):OL G h' x k xs v:=by
 revert y;refine DO λa vs e r p z=>?_
 exact⟨a,vs,e,r,p.to λ_=>hk _ _ r,z⟩
theorem gE{l l':Int}{q t:List AV}(C:ClsK w c top K)(I:Inv c G s env ρ)(hx:ρ.get x=some (.lex l q t))(X:LXs c G s.heap x l q t L){tk t':Tok}{tk':Nat}(hp:0<tk'):
 Nx c ρ G s (ρ.set x (.lex l' q t)) G {s with heap:=s.heap.update L.d (Obj.putName "lineno" (PyData.keyHash w.params "lineno") (.str "lineno" tk) (.int l' t')),toks:=tk'}/\
 Inv c G {s with heap:=s.heap.update L.d (Obj.putName "lineno" (PyData.keyHash w.params "lineno") (.str "lineno" tk) (.int l' t')),toks:=tk'} env (ρ.set x (.lex l' q t)):=by
 have e:Obj.putName "lineno" (PyData.keyHash w.params "lineno") (.str "lineno" tk) (.int l' t') (FH c l L)=FH c l' {L with t:=t'}:=by
  rw[show FH c l L=dictOf (Gf c.P L.ts (.int l L.t) (.ref L.st) (.str "\n\t\r " L.tw) (.ref L.p)) L.n from rfl,putName_dict];rfl
 have D:(s.heap.update L.d (Obj.putName "lineno" (PyData.keyHash w.params "lineno") (.str "lineno" tk) (.int l' t'))).get? L.d=some (FH c l' {L with t:=t'}):=by
  rw[<-e]
  exact Heap.get?_update_self _ X.hd (by rw[e];rfl)
 have sb:Heap.SameBut L.d s.heap (s.heap.update L.d (Obj.putName "lineno" (PyData.keyHash w.params "lineno") (.str "lineno" tk) (.int l' t'))):=Heap.SameBut.update ..
 refine Nb I hx X.gd sb ⟨_,D⟩ (λv' z=>?_) hp
 revert z;refine Cw λEa Bc Ch=>?_;obtain rfl:=Bc
 have ea:=I.uniq _ _ _ _ Ch.ga X.ga
 have hk:∀a k o,k≠0->G a=some (.own x k)->s.heap.get? a=some o->(s.heap.update L.d (Obj.putName "lineno" (PyData.keyHash w.params "lineno") (.str "lineno" tk) (.int l' t'))).get? a=some o:= λa k o hk g e=>by
  rw[sb.2 a λq=>?_];exact e
  rw[q,X.gd] at g;cases g;exact hk rfl
 refine⟨{L with t:=t'},congrArg Value.ref ea,X.ga,hk _ _ _ (by decide) X.ga X.ha,X.gd,D,X.push.same λa o g=>hk a 1 o (by decide) g,X.signs.same λa o g=>hk a 2 o (by decide) g,X.gst,X.gd2,X.read,X.gf,X.cls,X.data,X.glob,X.blt,X.code,X.gc,X.cdata,X.cname,X.body,X.text,X.clos,X.gcc,X.cell,X.dflt⟩
theorem SX.augLine(C:ClsK w c top K){o:PySem.Expr}{f:Str}{l l':Int}{q t:List AV}{Mq:Int}(hx:Hl sc o ρ=some (x,l,q,t))(hf:f="lineno")(hv:JU e=some v)(hk:v.int?=some Mq)
 (hu:Gy op (.int l) (.int Mq)=some u) (hl:u.int?=some l'):SX prog w c n sc (.AugAssign (.Attribute o f tp) op e pos) ρ .next (ρ.set x (.lex l' q t)):=by
 obtain⟨⟨q',he⟩,Ha⟩:=HS hx
 subst he hf
 intro A env G s Q E hA Ag I k
 refine wpAny_AugAssign_AttributeAny (CF I Ha λv' z=>?_)
 revert z;refine Cw λL Bc X=>?_;obtain rfl:=Bc
 refine KA C I X (by decide) Wg rfl ?_
 refine DS (L7 hv) λkk j p' B2 hc=>?_;obtain rfl:=B2
 have sW:kk=.int Mq:=by
  rw[Nh hk] at hc
  exact fB hc
 subst sW
 refine wpAny_Constant_int ?_
 have Ax:=(I.toks (s.toks+1)).toks (s.toks+1+1)
 refine Vn hu .int .int Ax λAU R9 AM Bf Gv=>?_
 obtain⟨t',rfl⟩:=VR.isInt hl Gv
 have XR:=(Od Ha).1
 refine Dc (Bf.or XR) λv2 Eb Ar OA=>?_;obtain rfl:=Ar
 have ea:=Bf.uniq _ _ _ _ X.ga OA.ga
 rw[ea]
 refine QN (C.here Bf) OA.ha OA.hd C.sa C.over (C.plain _ (by decide)) C.dict (by rfl) (by show 4<=900;exact AE 0x14c3843342 Aa) ?_
 obtain⟨Sm,R5⟩:=gE C Bf XR OA (tk:=AU.toks+1) (t':=t') (tk':=AU.toks+2) (l':=l') (Nat.succ_pos _)
 exact k _ _ _ ((((Nx.toks _).trans (.toks _)).trans AM).trans Sm) R5 trivial
end
section
variable {K:Frag}
theorem kM{l:Int}{q q' t:List AV}{its:Array Value}(I:Inv c G s env ρ)(hx:ρ.get x=some (.lex l q t))(X:LXs c G s.heap x l q t L)(ga:G a=some (.own x 1))(hs:Heap.SameBut a s.heap h')(hp:PL h' a its)(V:VRs G q' its.toList):
 Nx c ρ G s (ρ.set x (.lex l q' t)) G {s with heap:=h'}/\Inv c G {s with heap:=h'} env (ρ.set x (.lex l q' t)):=by
 have ea:L.p=a:=by
  refine Fe (X.push) λa' vs e r _ _=>?_
  (injection e with c0;subst c0);exact I.uniq _ _ _ _ r ga
 refine Nb I hx ga hs (hp.elim λ_ e=>⟨_,e⟩) (λv' z=>?_) I.stat.tok
 revert z;refine Cw λEa Bc Ch=>?_;obtain rfl:=Bc
 have tH:=I.uniq _ _ _ _ Ch.ga X.ga
 have hk:∀b k o,k≠1->G b=some (.own x k)->s.heap.get? b=some o->h'.get? b=some o:= λb k o hk g e=>by
  rw[hs.2 b λe=>?_];exact e
  rw[e,ga] at g;cases g;exact hk rfl
 exact⟨L,congrArg Value.ref tH,X.ga,hk _ _ _ (by decide) X.ga X.ha,X.gd,hk _ _ _ (by decide) X.gd X.hd,⟨a,its,by rw[ea],ga,hp,V⟩,X.signs.same λb o g=>hk b 2 o (by decide) g,X.gst,X.gd2,X.read,X.gf,X.cls,X.data,X.glob,X.blt,X.code,X.gc,X.cdata,X.cname,X.body,X.text,X.clos,X.gcc,X.cell,X.dflt⟩
theorem SE.pushMeth(C:ClsK w c top K)(hr:Bd prog w c n r){o:PySem.Expr}{m:Str}{bp:Pos}(hl:(ap.endLine==pos.line)=true)(DK:args.length<=5)(h:L9 r top sc o "pushback" m args ρ=some (v,ρ')):
 SE prog w c n sc (.Call (.Attribute (.Attribute o "pushback" bp) m ap) args [] pos) ρ v ρ':=by
 refine Ak (CP h) λBB hx h=>?_;obtain⟨x,Yl,q₀,t₀⟩:=BB
 revert h;refine Bv λvs Aw B0 h=>?_
 revert h;refine Ai λo' DZ h=>?_
 refine Ak (CP h) λBB hq h=>?_;obtain⟨l,q,t⟩:=BB
 intro A env G s Q E hA Ag I k
 dsimp only at h
 rw[if_pos rfl] at h
 revert h;refine Bv λu ys hu h=>?_
 (revert h;refine AO λc1 c2=>?_;subst c1;subst c2)
 rw[Jk hq] at DZ
 obtain⟨⟨p,rfl⟩,Ha⟩:=HS hx
 refine Cf (Wq (prog:=prog) (w:=w) hu) λid HF FK hm=>?_
 refine Ny (q:= λ_ _=>True) rfl hl DK (Hv B0) F.plainAttrs_list HF FK (Attribute_name (CF I Ha λv' z=>?_))
 revert z;refine Cw λL Bc X=>?_;obtain rfl:=Bc
 refine KA C I X (by decide) SA rfl ?_
 have gp:G L.p=some (.own x 1)/\∃vs,PL s.heap L.p vs:=by
  refine Fe (X.push) λa' vs e r hp _=>?_
  (injection e with c0;subst c0);exact⟨r,vs,hp⟩
 revert gp;refine cO λgp vW j hj=>?_
 refine⟨⟨⟨_,hj,rfl⟩,λa e=>by(injection e with c0;subst c0);exact⟨_,hj,rfl⟩⟩,EC hr hA Ag B0 (I.toks (s.toks+1)) (.refl ..) λAv Ad Ba Au An _ Bj=>?_⟩
 refine Dc (An.or DZ) λFv B5 Ar Xm=>?_;obtain rfl:=Ar
 refine Fe (Xm.push) λa' its e r' hp W=>?_
 (injection e with c0;subst c0)
 have Jz:=Au.own _ _ _ r' (I.res _ _ _ gp)
 obtain ea:=I.uniq _ _ _ _ Jz gp
 rw[<-ea]
 refine hm A Av Ad B5.p its Ba Q E hp W Bj λh' M3 u' hs JD W' U=>?_
 obtain⟨A8,Ax⟩:=kM An DZ Xm r' hs JD W'
 exact k _ _ _ (((Nx.toks _).trans Au).trans A8) Ax U
end
section
variable {K:Frag}
theorem S5{o:PySem.Expr}{m:Str}(hb:attributeBase o m env (eval o env)=eval o env)(hl:(ap.endLine==pos.line)=true)(DK:args.length<=5)
 (hp:(backTo pos (starEach args env)).all (λx=> !x.1)=true)
 (h:wpAny M A (eval o env) (λov Ad=>∀pl,wpAny M A (getMethod ov m pl) (λfx A4=>wpAny M A (callWith pos fx.1 fx.2 (backTo pos (starEach args env)) []) Q E A4) E Ad) E s):wpAny M A (eval (.Call (.Attribute o m ap) args [] pos) env) Q E s:=by
 rw[arm_eval_Call,hb]
 refine wpAny_bind (wpAny_mono h (λov Ad Cd=>wpAny_bind (wpAny_standAt ?_)) λ_ _ e=>e)
 have tW:methodCallForm (args.length+([]:List Keyword).length) (backTo pos (starEach args env)) (backToKw pos (keywordEach [] env))=true:=by
  unfold methodCallForm
  rw[hp]
  show(true&&decide (args.length+0+0<30))=true
  simp only[Bool.true_and,decide_eq_true_eq];exact Ah 0x16c1e234024020114a5201 Aa DK
 have ON:methodCallPos true o env ap pos=pure pos:=by unfold methodCallPos;simp[hl]
 unfold methodCall calleeOf
 rw[tW,if_pos rfl]
 refine wpAny_bind (wpAny_holding (wpAny_mono (Cd _) (λfx A4 ES=>?_) λ_ _ e=>e))
 obtain⟨f,first⟩:=fx
 exact wpAny_bind (wpAny_of_eq ON ES)
theorem ClsK.notField(C:ClsK w c top K){m:Str}{v:Value}(h:findIn K (.ref c.C) m=some (some v)):∀f∈LI,m≠f:= λf hf e=>by
 subst e
 rw[C.plain m hf] at h;(revert h;refine As λc0=>?_;exact Az c0)
theorem S2{m:Str}(h:∀f∈LI,m≠f):lookIn m (FH c line L)=some none:=by
 have n1:(("lineno":Str)==m)=false:=by simpa using(h "lineno" (by decide)).symm
 have n2:(("instream":Str)==m)=false:=by simpa using(h "instream" (by decide)).symm
 have n3:(("whitespace":Str)==m)=false:=by simpa using(h "whitespace" (by decide)).symm
 have n4:(("pushback":Str)==m)=false:=by simpa using(h "pushback" (by decide)).symm
 show getL m (Gf c.P L.ts (.int line L.t) (.ref L.st) (.str "\n\t\r " L.tw) (.ref L.p))=some none
 unfold getL Gf
 have e:∀(s:Str) (t:Tok),(s==m)=false->(Value.str s t).isStr m=false:= λs t h=>h
 rw[List.find?_cons_of_neg (by rw[e _ _ n1];decide),List.find?_cons_of_neg (by rw[e _ _ n2];decide),List.find?_cons_of_neg (by rw[e _ _ n3];decide),List.find?_cons_of_neg (by rw[e _ _ n4];decide)]
 rfl
theorem SE.lexMeth(T:Bx c top)(C:ClsK w c top K)(hr:Bd prog w c n r){m:Str}{p:Pos}{o:AV}(hl:(ap.endLine==pos.line)=true)(DK:args.length<=5)(hx:Ca sc x ρ=some o)(ho:o.lex?.isSome=true)(h:I3 r top sc x m args ρ=some (v,ρ')):
 SE prog w c (n+1) sc (.Call (.Attribute (.Name x p) m ap) args [] pos) ρ v ρ':=by
 obtain⟨q,hq⟩:=Option.isSome_iff_exists.mp ho
 have Hg:=Jk hq
 revert h;refine Ai λo' FW h=>?_
 rw[hx] at FW;(revert FW;refine As λc0=>?_;subst c0)
 subst Hg
 revert h;refine Bv λvs Aw B0 h=>?_
 revert h;refine Ai λd hd h=>?_
 refine EW (C.meth m d hd) λa oo fd hf ht F=>?_
 intro A env G s Q E hA Ag I k
 refine S5 PD hl DK (Hv B0).1 (CF I hx λv' z pl=>?_)
 revert z;refine Cw λX Bc HX=>?_;obtain rfl:=Bc
 refine method_fn (C.here I) HX.inst C.ga C.gt hf ht (by show(lookIn m (FH c q.1 X)).map (λx=>x.isSome)=some false;rw[S2 (C.notField hf)];rfl) ?_
 refine callWith_function_kw (wpAny_mono (Q:= λx Ad=>Ad.heap.get? a=some oo/\wpAny (model prog w) A (call (.ref a) ([.ref X.a]++x.pos) x.kw) Q E Ad) ?_ (λ_ _ h=>⟨⟨h.1,F.data⟩,h.2⟩) λ_ _ e=>e)
 refine IE (Hv B0).1 (EC hr hA.lift Ag B0 I (.refl ..) λAv Ad Ba Au An B5 Bj=>⟨An.stat.keep _ _ F.at' F.nt,?_⟩)
 have vF:Av X.a=some (.own x 3):=by
  refine AL h λCo Ds k1=>?_
  refine AL k1 λxs Cn _=>?_
  exact VL I Au HX.ga Ds Cn An
 exact VW T hr hA An F vF Bj .nil h λG' s' v' N' I' W=>k _ _ _ (Au.trans N') I' W
end
noncomputable def G6(G:Gh)(x:Str):Addr->Option AP:= λa=>match G a with
 |some (.own y k)=>if y=x/\k=2 then some (.own "signs" 0) else none
 |_=>none
section
variable {p:Str}
theorem LS{r:AP}(e:G6 G x a=some r):r=.own "signs" 0/\G a=some (.own x 2):=by
 unfold G6 at e
 revert e
 generalize G a=o
 cases o with
 |none=>exact λe=>Az e
 |some r'=>
  cases r' with
  |own y k=>exact λe=>(dite (y=x/\k=2) (λc=>⟨(Option.some.inj ((if_pos c).symm.trans e)).symm,c.1▸c.2▸rfl⟩) λc=>Az ((if_neg c).symm.trans e))
  |_=>exact λe=>Az e
theorem NI(e:G.lend (G6 G x) a=some (.own p k)):p="signs"/\k=0/\G a=some (.own x 2):=by
 rcases Gh.lend_rl e with⟨_,z,_⟩|⟨z,_⟩
 ·injection z
 ·obtain⟨z,y⟩:=LS z
  (injection z with c0 c1;subst c0;subst c1);exact⟨rfl,rfl,y⟩
theorem iQ(e:G.lend (G6 G x) a=some (.fro o)):G a=some (.fro o):=by
 rcases Gh.lend_rl e with⟨_,z,y⟩|⟨z,_⟩
 ·(injection z with c0;subst c0);exact y
 ·cases (LS z).1
theorem aT(e:G a=some (.own x 2)):G.lend (G6 G x) a=some (.own "signs" 0):=by
 rw[Gh.lend_T e λ_ h=>AP.noConfusion h]
 unfold G6;rw[e]
 exact if_pos ⟨rfl,rfl⟩
theorem oG(u:∀a b k,G a=some (.own x k)->G b=some (.own x k)->a=b):Lend G (G.lend (G6 G x)) h:=.of (λa r e=>by
 obtain⟨z,y⟩:=LS e
 exact .inr ⟨_,_,x,2,z,y⟩) (λa e=>by unfold G6;rw[e])
 (λa b q k e e'=>u a b 2 (LS e).2 (LS e').2)
end
section
variable {K:Frag}
theorem SE.read(T:Bx c top)(C:ClsK w c top K)(hr:Bd prog w c n r){o:PySem.Expr}{f m:Str}{bp:Pos}(hf:f≠"pushback")(hl:(ap.endLine==pos.line)=true)(DK:args.length<=5)(h:L9 r top sc o f m args ρ=some (v,ρ')):
 SE prog w c (n+1) sc (.Call (.Attribute (.Attribute o f bp) m ap) args [] pos) ρ v ρ':=by
 refine Ak (CP h) λBB hx h=>?_;obtain⟨x,Yl,q₀,t₀⟩:=BB
 revert h;refine Bv λvs Aw B0 h=>?_
 revert h;refine Ai λo' DZ h=>?_
 refine Ak (CP h) λBB hq h=>?_;obtain⟨l,q,t⟩:=BB
 intro A env G s Q E hA Ag I k
 dsimp only at h
 rw[if_neg hf] at h
 revert h;refine Ai λ_ hg0 h=>?_
 obtain⟨ef,em⟩:=of_decide_eq_true (AI hg0)
 revert h;refine Ai λd hd h=>?_
 refine Ak (CP h) λBB qP h=>?_;obtain⟨ps,body,scope⟩:=BB
 revert h;refine Ai λy hy h=>?_
 revert h;refine Ai λa ha h=>?_
 revert h;refine Ai λ_ hgu h=>?_
 revert h;refine Bv λu C3 hb h=>?_
 revert h;refine Ai λw' hw h=>?_
 revert h;refine Ai λt' ht h=>?_
 (revert h;refine AO λc1 c2=>?_;subst c1;subst c2)
 rw[Jk hq] at DZ
 rw[EK ht] at hw
 subst ef em
 obtain⟨⟨p,rfl⟩,Ha⟩:=HS hx
 obtain⟨hgu,g6⟩:=Bool.and_eq_true_iff.mp (AI hgu)
 obtain⟨hgu,g5⟩:=Bool.and_eq_true_iff.mp hgu
 obtain⟨hgu,g4⟩:=Bool.and_eq_true_iff.mp hgu
 obtain⟨hgu,g3⟩:=Bool.and_eq_true_iff.mp hgu
 obtain⟨hgu,g7⟩:=Bool.and_eq_true_iff.mp hgu
 obtain⟨g1,g2⟩:=Bool.and_eq_true_iff.mp hgu
 refine S5 rfl hl DK (Hv B0).1 (Attribute_name (CF I Ha λv' z=>?_))
 revert z;refine Cw λL Bc X=>?_;obtain rfl:=Bc
 refine KA C I X (by decide) jT rfl λpl=>?_
 have I':=I.toks (s.toks+1)
 have hst:InstAt s.heap L.st (instObj c.C L.d2) c.C (some {cls:=.type "dict",data:=.dict L.es.toArray L.n2}):=⟨I.fro _ _ X.gst,rfl,rfl,I.fro _ _ X.gd2⟩
 have q8:lookIn "read" {cls:=.type "dict",data:=.dict L.es.toArray L.n2}=some (some (.ref L.f)):=by
  show getL "read" L.es=_
  unfold getL
  rw[X.read]
 refine method_usual (C.here I') hst C.ga C.gt (C.plain "read" (by decide)) rfl (get_value (C.here I') hst C.ga (findObj_own C.dict (C.plain "read" (by decide)) rfl q8) rfl ?_)
 refine callWith_function_kw (wpAny_mono (Q:= λx Ad=>Ad.heap.get? L.f=some L.o/\wpAny (model prog w) A (call (.ref L.f) x.pos x.kw) Q E Ad) ?_ (λ_ _ h=>⟨⟨h.1,X.data⟩,h.2⟩) λ_ _ e=>e)
 refine IE (Hv B0).1 (EC hr hA.lift Ag B0 (I'.toks (s.toks+1+1)) (.refl ..) λAv Ad Ba Au An B5 Bj=>?_)
 have XD:Nx c ρ G s Aw Av Ad:=((Nx.toks _).trans (.toks _)).trans Au
 refine⟨An.fro _ _ (B5 _ _ X.gf),?_⟩
 rw[E2 ha] at Bj
 cases Bj with
 |cons JB Bj=>
 cases Bj
 refine Dc (An.or DZ) λFv Ea Ar Ch=>?_;obtain rfl:=Ar
 refine Fe (Ch.signs) λg' its eg gg hp W=>?_
 (injection eg with c0;subst c0)
 have gl:G L.g=some (.own x 2):=by
  refine GV (X.signs) λg' _ eg gg _=>?_
  (injection eg with c0;subst c0);exact gg
 have eg:Ea.g=L.g:=I.uniq _ _ _ _ (XD.own _ _ _ gg (I.res _ _ _ gl)) gl
 have XT:=X.text
 rw[<-C.htop,hd] at XT
 have e3:(ps,body,scope)=(L.fd.params,L.b,L.fd.scope):=Option.some.inj (qP.symm.trans XT)
 (revert e3;refine FI λc0 c1=>?_;subst c0;revert c1;refine FI λc2 c3=>?_;subst c2;subst c3)
 have Ld:Lend Av (Av.lend (G6 Av x)) Ad.heap:=oG λa b k=>An.uniq a b x k
 have ne:¬(("signs":Str)=y):= λq=>by
  have h1:=Pd g2
  rw[<-q,Ib g7] at h1;(revert h1;refine As λc0=>?_;injection c0)
 have Sp:∀z a,L.fd.closure.lookup z=some a->z="signs"/\a=L.cc:= λz a e=>by
  rw[X.clos,List.lookup_cons] at e
  by_cases q:z="signs"
  ·rw[q,beq_self_eq_true] at e;(revert e;refine As λc0=>?_;subst c0);exact⟨q,rfl⟩
  ·rw[show(z==("signs":Str))=false by simpa using q] at e;exact Az e
 refine SW T hr hA An Ld (caught:=[(("signs":Str),AV.ol t)]) (B5 _ _ X.gf) X.data X.body X.glob X.blt X.code (B5 _ _ X.gc) X.cdata X.cname (λz z' a e e'=>(Sp z a e).1.trans (Sp z' a e').1.symm) (λz a e=>(Sp z a e).2▸⟨_,B5 _ _ X.gcc⟩) X.dflt hy (by simpa using g1) g2 (by simpa using g3) (by simpa using g4) (by simpa using g5)
  (λp m=>by simpa using List.all_eq_true.mp g6 p m) (λp m=>by rcases List.mem_singleton.mp m with rfl;exact g7) ((JB.mono Ld.fro).or) (λz u e=>?_) (λa p k e=>?_) hb λGo so AN u' D U=>?_
 ·rw[List.lookup_cons] at e
  by_cases q:z="signs"
  ·rw[q,beq_self_eq_true] at e;(revert e;refine As λc0=>?_;subst c0)
   refine⟨L.cc,L.oc,.ref L.g,by rw[X.clos,q,List.lookup_cons,beq_self_eq_true],B5 _ _ X.gcc,X.cell,?_⟩
   exact⟨L.g,its,rfl,q▸eg▸aT gg,eg▸hp,W.mono Ld.fro⟩
  ·rw[show(z==("signs":Str))=false by simpa using q] at e;exact Az e
 ·refine DG (NI e) λBB _ _=>?_;obtain rfl:=BB
  exact⟨rfl,ne⟩
 ·refine D3 (D.inv.or hw) λR9 JJ sH B2 Yn r0 sX=>?_;obtain rfl:=B2
  have RW:((R.mk ((y,a)::[(("signs":Str),AV.ol t)]) λ_=>true).get "signs").isSome=true:=by
   rw[R.get,List.lookup_cons,show(("signs":Str)==y)=false by simpa using ne];rfl
  refine DG (NI (D.back _ _ _ Yn RW)) λ_ _ gb=>?_
  have Jx:=An.uniq _ _ _ _ gb gg
  have Kc:=D.came λb q' j e=>by
   refine DG (NI e) λ_ _ e=>?_
   rw[An.uniq _ _ _ _ e gb];exact⟨_,_,Yn⟩
  have le:=Nu An Ld Kc λ_ _ e=>iQ e
  have up:∀{b k},Av b=some (.own x k)->k≠2->∀o,Ad.heap.get? b=some o->so.heap.get? b=some o:= λ{b k} g hk o e=>by
   refine Kc.keep b o id e ?_ (An.noTab g)
   rw[Gh.lend_T g λ_ h=>AP.noConfusion h]
   unfold G6;rw[g]
   exact if_neg λz=>hk z.2
  obtain⟨Ec,Di⟩:=Qs An Ld Kc (u:=.lex l q t') DZ (λb z k p j e e'=>by
   obtain⟨_,_,e''⟩:=NI e'
   rw[e] at e'';cases e'';rfl) λv' z=>by
   obtain⟨Z,rfl,HZ⟩:=z
   have ea:=An.uniq _ _ _ _ HZ.ga Ch.ga
   have lb:Av.Le (Av.back Go):= λa o e=>Gh.back_some e
   obtain⟨pa,pits,q1,q2,q3,q4⟩:=Ch.push
   exact⟨Ea,by rw[ea],Gh.back_some Ch.ga,up Ch.ga (by decide) _ Ch.ha,Gh.back_some Ch.gd,up Ch.gd (by decide) _ Ch.hd,⟨pa,pits,q1,Gh.back_some q2,q3.to λo=>up q2 (by decide) o,q4.mono lb⟩,⟨JJ,sH,by rw[Jx],Gh.back_some gb,r0,sX.mono le⟩,
    lb _ _ Ch.gst,lb _ _ Ch.gd2,Ch.read,lb _ _ Ch.gf,Ch.cls,Ch.data,Ch.glob,Ch.blt,Ch.code,lb _ _ Ch.gc,Ch.cdata,Ch.cname,Ch.body,Ch.text,Ch.clos,lb _ _ Ch.gcc,Ch.cell,Ch.dflt⟩
  exact k _ _ _ (XD.trans Ec) Di (U.mono le)
end
set_option maxRecDepth 100000
theorem T5:Slot "callable_iterator" "__iter__" "callable_iterator.__iter__":=
 .of (owner:="callable_iterator") (n:="__iter__") (by rw[typeLookup_type,builtinLookup_eq_fast];kernel_rfl) (by decide+kernel) (by decide+kernel) (by decide+kernel)
  (by first|exact .inl (by decide+kernel)|exact .inr (by decide+kernel)) (by rw[isSubtype_type];kernel_rfl)
theorem LJ:Slot "callable_iterator" "__next__" "callable_iterator.__next__":=
 .of (owner:="callable_iterator") (n:="__next__") (by rw[typeLookup_type,builtinLookup_eq_fast];kernel_rfl) (by decide+kernel) (by decide+kernel) (by decide+kernel)
  (by first|exact .inl (by decide+kernel)|exact .inr (by decide+kernel)) (by rw[isSubtype_type];kernel_rfl)
theorem TN:entryFor table "callable_iterator.__next__"=some Builtin.«callable_iterator.__next__»:=entryFor_of_fast (by kernel_rfl)
theorem lB:entryFor table "callable_iterator.__iter__"=some Builtin.«dict_keyiterator.__iter__»:=
 entryFor_alias (id':="dict_keyiterator.__iter__") (by kernel_rfl) rfl (by decide+kernel) (by kernel_rfl)
theorem cX(a:Value):argsOk "callable_iterator.__iter__" ⟨[a],[]⟩:=by unfold argsOk;kernel_rfl
theorem VA(a:Value):argsOk "callable_iterator.__next__" ⟨[a],[]⟩:=by unfold argsOk;kernel_rfl
theorem Y1:entryFor table "iter"=some Builtin.«iter»:=entryFor_of_fast (by kernel_rfl)
theorem hH(a b:Value):argsOk "iter" ⟨[a,b],[]⟩:=by unfold argsOk;kernel_rfl
noncomputable abbrev L2(me:Addr)(t:Tok):Obj:={cls:=.type "callable_iterator",data:=.fields #[.ref me,.str "" t,.bool false]}
noncomputable abbrev Vd:Obj:={cls:=.type "callable_iterator",data:=.fields #[.none,.none,.bool true]}
theorem kR(ht:s.TypeIs (.ref a) "callable_iterator")(h:Q (.ref a) s):wpAny (model prog w) A (pyIter (.ref a)) Q E s:=by
 refine wpAny_pyIter_slot ht T5 (wpAny_call_entry T5 ht lB ?_ (cX _))
 show wpAny _ _ (ret (.ref a)) _ _ s
 exact wpAny_pure ⟨_,rfl,"callable_iterator",_,ht,LJ.lookup,h⟩
theorem SY{f:Addr}{b:Value}{Q:Bool->Shared->Prop}(hm:s.heap.get? me=some (methodObj (.ref f) b))(hf:s.heap.get? f=some o)(hd:o.data=.func fd)(h:Q true s):wpAny M A (borrowsExactly (.ref me)) Q E s:=by
 unfold borrowsExactly
 refine wpAny_bind (wpAny_load hm ?_)
 rw[if_pos (by rfl)]
 refine wpAny_bind (wpAny_load hf ?_)
 rw[hd]
 exact wpAny_pure h
theorem hG{f:Value}{pos:List Value}(h:wpAny M A (call f pos) Q E s):wpAny M A (callBorrowed f pos) Q E s:=by
 have e:callBorrowed f pos=(call f pos).keep [borrowed]:=by
  show Sem.call _ _ _ _ _=Sem.call _ _ _ _ _
  congr 1
  funext r
  rcases r with e|(_|_|_|_)<;>rfl
 rw[e]
 exact Calls.wpAny_keep h
theorem Mi{Q:α->Shared->Prop}(hh:A.handled=none)(h:∀e h',(∀b o,s.heap.get? b=some o->h'.get? b=some o)->(∃o,h'.get? e=some o/\o.cls=.type "StopIteration")->E (.ref e) {s with heap:=h'}):
 wpAny (model prog w) A (Builtin.SmallTypes.stopIteration:Sem α) Q E s:=by
 unfold Builtin.SmallTypes.stopIteration
 refine wpAny_bind ?_
 simp only[newExc,newTuple]
 refine wpAny_bind (wpAny_newObj_type ?_ (by size_fits))
 refine wpAny_bind (m:=firstArgMember _ _) (wpAny_of_eq (a:=Value.none) (by first|rfl|(simp only[firstArgMember];rfl)) ?_)
 refine wpAny_newObj_type ?_ (by size_fits)
 unfold raiseNew
 refine wpAny_bind (wpAny_bind (wpAny_handled ?_))
 rw[hh]
 refine wpAny_pure (wpAny_throw ?_)
 exact h _ _ (λb o hb=>Heap.get?_push_of_some _ (Heap.get?_push_of_some _ hb)) ⟨_,Heap.get?_push_size _ rfl,rfl⟩
theorem fY{Q:Option Value->Shared->Prop}(hh:A.handled=none)(ha:s.heap.get? a=some Vd)(h:∀h',(∀b o,s.heap.get? b=some o->h'.get? b=some o)->Q none {s with heap:=h'}):wpAny (model prog w) A (pyNext (.ref a)) Q E s:=by
 have ht:s.TypeIs (.ref a) "callable_iterator":=⟨_,ha,rfl⟩
 unfold pyNext
 refine wpAny_bind (wpAny_attempt (wpAny_callSpecial?_slot (name:=Str.ofString "__next__") ht LJ (wpAny_call_entry LJ ht TN ?_ (VA _))))
 unfold Builtin.«callable_iterator.__next__»
 refine wpAny_bind (wpAny_of_eq (a:=(Value.ref a,([]:List Value))) rfl (wpAny_bind (wpAny_field ha rfl rfl ?_)))
 rw[if_pos (by decide)]
 refine wpAny_bind (wpAny_rule (wpAny_bind (Mi hh λe h' hk ⟨o,he,hc⟩=>?_)))
 refine wpAny_bind (wpAny_isInstance (T:="StopIteration") (b:=true) ⟨_,he,hc⟩ isSubtype_stop ?_)
 exact wpAny_pure (h h' hk)
noncomputable def dM(a:Addr)(Q:Option Value->Shared->Prop)(v:Value)(s':Shared):Prop:=
 ∃y t',v=.str y t'/\(∃me t f b o fd,s'.heap.get? a=some (L2 me t)/\s'.heap.get? me=some (methodObj (.ref f) b)/\s'.heap.get? f=some o/\o.data=.func fd)/\
  (y.length≠0->Q (some (.str y t')) s')/\(y.length=0->∀FR h',Heap.SameBut a s'.heap FR->FR.get? a=some Vd->(∀b o,FR.get? b=some o->h'.get? b=some o)->Q none {s' with heap:=h'})
theorem j3{f:Addr}{b:Value}{t:Tok}{Q:Option Value->Shared->Prop}(hh:A.handled=none)(ha:s.heap.get? a=some (L2 me t))(hm:s.heap.get? me=some (methodObj (.ref f) b))(hf:s.heap.get? f=some o)(hd:o.data=.func fd)
 (h:codeAny (model prog w) A.in1 (.call (.ref f) ⟨[b],[]⟩) (λr s'=>match r with|.ok (.ret v)=>dM a Q v s'|.ok _=>False|.error e=>(λ_ _=>False:Value->Shared->Prop) e s') s):wpAny (model prog w) A (pyNext (.ref a)) Q E s:=by
 have ht:s.TypeIs (.ref a) "callable_iterator":=⟨_,ha,rfl⟩
 unfold pyNext
 refine wpAny_bind (wpAny_attempt (wpAny_callSpecial?_slot (name:=Str.ofString "__next__") ht LJ (wpAny_call_entry LJ ht TN ?_ (VA _))))
 unfold Builtin.«callable_iterator.__next__»
 refine wpAny_bind (wpAny_of_eq (a:=(Value.ref a,([]:List Value))) rfl (wpAny_bind (wpAny_field ha rfl rfl ?_)))
 rw[if_neg (by exact Bool.false_ne_true)]
 refine wpAny_bind (wpAny_field ha rfl rfl (wpAny_bind (wpAny_attempt ?_)))
 unfold callOutOfASlot
 refine wpAny_bind (SY hm hf hd ?_)
 rw[if_pos rfl]
 refine hG (wpAny_call (method_call hm (codeAny_mono h λr s' z=>?_)))
 rcases r with e|(_|_|_|v)
 ·exact z.elim
 ·exact z.elim
 ·exact z.elim
 ·exact z.elim
 revert z;refine DO λy t' Ar B2 hn he=>?_;obtain rfl:=Ar;obtain⟨me',tt,f',b',o',fd',ha',hm',Gx,FS⟩:=B2
 dsimp only
 refine wpAny_bind (wpAny_field ha' rfl rfl ?_)
 rw[if_neg (by exact Bool.false_ne_true)]
 refine wpAny_bind (wpAny_field ha' rfl rfl (wpAny_bind (wpAny_holding (eqBool_str ?_))))
 by_cases hy:y.length=0
 ·have ey:y=Str.ofString "":=Str.ext' (by
   have:y.cps.size=0:=hy
   rw[Array.size_eq_zero_iff.mp this];rfl)
  have eb:(Str.ofString ""==y)=true:=by rw[ey];rfl
  rw[eb,if_neg (by decide)]
  refine wpAny_bind (wpAny_rule (wpAny_bind ?_))
  refine wpAny_bind (wpAny_field ha' rfl rfl (wpAny_bind ?_))
  unfold slotLetsGo
  refine wpAny_bind (SY hm' Gx FS ?_)
  rw[if_pos rfl]
  refine wpAny_pure ?_
  refine wpAny_bind (wpAny_setField_rec ha' (by simp) λCd HE Ad=>?_)
  refine wpAny_bind (wpAny_setField_rec HE (by simp) λES I7 A4=>?_)
  refine wpAny_setField_rec I7 (by simp) λFR Jx AU=>?_
  refine Mi hh λe h' hk ⟨o,he',hc⟩=>?_
  refine wpAny_bind (wpAny_isInstance (T:="StopIteration") (b:=true) ⟨_,he',hc⟩ isSubtype_stop ?_)
  exact wpAny_pure (he hy FR h' ⟨AU.1.trans (A4.1.trans Ad.1),λb nb=>(AU.2 b nb).trans ((A4.2 b nb).trans (Ad.2 b nb))⟩ Jx hk)
 ·have eb:(Str.ofString ""==y)=false:=by
   rw[beq_eq_false_iff_ne]
   rintro rfl;exact hy rfl
  rw[eb,if_pos (by decide)]
  exact wpAny_pure ⟨_,rfl,wpAny_pure (hn hy)⟩
section
variable {K:Frag}
theorem VD{b:Bool}(h:v.cit?=some b):v=.cit b:=by
 cases v with
 |cit=>(revert h;refine As λc0=>?_;subst c0);rfl
 |_=>exact Az h
theorem Zh{f:Str}{vs:List AV}{b:Bool}(h:Ho r d x vs ks ρ=some (v,ρ'))(hf:ρ.get f=some (.cit b)):ρ'.get f=some (.cit b)/\f≠x:=by
 revert h;refine Ai λCo Ds h=>?_
 revert h;refine Ai λxs Cn h=>?_
 revert h;refine Ai λp I6 h=>?_
 revert h;refine Ai λb' hb h=>?_
 revert h;refine Bv λu C3 hu h=>?_
 revert h;refine Ai λAw hi h=>?_
 (revert h;refine AO λc1 c2=>?_;subst c1;subst c2)
 revert hi;refine Ai λt ht hi=>?_
 revert hi;refine Ai λys J9 hi=>?_
 (revert hi;refine As λc0=>?_;subst c0)
 have ne:f≠x:= λq=>by
  rw[q,Ds] at hf;cases hf;cases Cn
 exact⟨by rw[R.get_set,if_neg ne];exact hf,ne⟩
theorem OkA.in1(h:OkA A (n+1)):OkA A.in1 n:=⟨h.1,by have:=h.2.1;show A.depth+4*n<=900;exact Ac 0x14c384334415110114a3843344154121101 Aa this,by have:=h.2.2;show A.units+1+60*n<=9000;exact Ac 0x14c23284343c25114120114a23284343c254121101 Aa this⟩
theorem SX.cit(T:Bx c top)(C:ClsK w c top K)(hr:Bd prog w c n r){i:PySem.Expr}{f:Str}{W:Nat}{fl:Fl}(hn:Ik sc t i ρ=some (f,x))(h:DA f (Ix r top sc) (Kp r sc x b) W ρ=some (fl,ρ')):SX prog w c (n+2) sc (.For t i b [] pos) ρ fl ρ':=by
 revert hn;refine Ai λf' Gx hn=>?_
 revert hn;refine Ai λv hv hn=>?_
 revert hn;refine Ai λlv rK hn=>?_
 revert hn;refine Ai λx' FW hn=>?_
 cases hn
 obtain⟨pi,rfl⟩:=EB Gx
 obtain⟨pt,rfl⟩:=EB FW
 rw[VD rK] at hv
 have at':∀{Av:Gh} {Ad:Shared} {live:Bool} {v':Value},CX c Av Ad.heap f live v'->∃a,v'=.ref a/\Av a=some (.own f 0)/\Ad.TypeIs (.ref a) "callable_iterator":= λ{Av Ad live v'} z=>by
  revert z;refine WI λa e g z1 z2=>?_
  cases live with
  |true=>refine Jj (z1 rfl) λme f' b t _ z=>?_;exact⟨a,e,g,_,z.it,rfl⟩
  |false=>exact⟨a,e,g,_,z2 rfl,rfl⟩
 intro A env G s Q E hA Ag I k
 refine wpAny_For (CF I hv λv' z=>?_) λx=>IK rfl
 refine Cf (at' z) λa Bc ga ht=>?_;obtain rfl:=Bc
 refine kR ht ?_
 refine codeAny_forLoop_any (λm s'=>∃Aw Av,DA f (Ix r top sc) (Kp r sc x b) m Aw=some (fl,ρ')/\Inv c Av s' env Aw/\Nx c ρ G s Aw Av s') ?_ W ⟨ρ,G,h,I,.refl ..⟩
 rintro m s' ⟨Aw,Av,h,An,Au⟩
 cases m with
 |zero=>cases h
 |succ m=>
  revert h;refine Ai λvO Su h=>?_
  revert h;refine Ai λlive uQ h=>?_
  rw[VD uQ] at Su
  refine Fe (An.or Su) λFv Mt Ar Jz z1 z2=>?_;obtain rfl:=Ar
  have ea:=I.uniq _ _ _ _ (Au.own _ _ _ Jz (I.res _ _ _ ga)) ga
  subst ea
  cases live with
  |false=>
   rw[if_neg Bool.false_ne_true] at h
   cases h
   refine fY hA.1 (z2 rfl) λh' hk=>wpAny_execs_nil ?_
   obtain⟨A8,Ax⟩:=Hj (tk:=s'.toks) An An.stat.tok hk
   exact k _ _ _ (Au.trans A8) Ax trivial
  |true=>
   rw[if_pos rfl] at h
   refine Jj (z1 rfl) λme fc Hb tt KL Z=>?_
   revert h;refine Bv λv B8 RU h=>?_
   revert h;refine Ai λy hy h=>?_
   revert RU;refine Ai λ_ Yh RU=>?_
   refine AL RU λd hd Pc=>?_
   refine EW (C.meth _ d hd) λfa oo fd So FK F=>?_
   refine Cf (C.rd) λfa' hr1 O9 _=>?_
   rw[So] at O9;cases O9
   rw[KL] at hr1;cases hr1
   obtain⟨hc₂,nself⟩:=Zh Pc Su
   refine j3 hA.1 Z.it (An.fro _ _ Z.gm) (An.stat.keep _ _ F.at' F.nt) F.data (Tp (E:= λ_ _=>False) T hr hA.in1 An F Z.gb (.nil (G:=Av)) .nil Pc λAY A4 v' A8 Ax V=>?_)
   obtain⟨t',rfl⟩:=VR.isStr hy V
   refine Fe (Ax.or hc₂) λI9 a₂ Ar Jr z3 _=>?_;obtain rfl:=Ar
   have ea:=An.uniq _ _ _ _ (A8.own _ _ _ Jr (An.res _ _ _ Jz)) Jz
   subst ea
   refine Jj (z3 rfl) λuC sC vQ vA XU Sd=>?_
   rw[KL] at XU;cases XU
   refine⟨y,t',rfl,⟨uC,vA,_,_,_,_,Sd.it,Ax.fro _ _ Sd.gm,Ax.stat.keep _ _ F.at' F.nt,F.data⟩,λMr=>?_,λMr FR h' sb Xp hk=>?_⟩
   ·have ny:¬y=⟨#[]⟩:= λq=>Mr (by rw[q];rfl)
    rw[if_neg ny] at h
    refine BQ h λsU C2 ht h2=>?_
    refine AL ht λFT hb hs=>?_
    refine Pn (T:="callable_iterator") Sd.it rfl (by decide) (wpAny_assign_Name (GG Ax (Au.trans A8) Ag.1 hb (Ax.gr _ _) (VR.str (G:=AY)).or λAU AM Bf=>?_))
    refine hr.ss _ _ _ _ _ hs A env AY AU _ _ hA.lift.lift Ag Bf λFP CI f' Ec Di F=>?_
    have N:=AM.trans Ec
    cases sU with
    |ret u=>
     cases h2
     cases f' with
     |ret u'=>exact k _ _ _ N Di F
     |_=>exact F.elim
    |next=>
     cases f' with
     |next=>exact⟨m,Nat.lt_succ_self m,C2,FP,h2,Di,N⟩
     |_=>exact F.elim
    |cont=>
     cases f' with
     |cont=>exact⟨m,Nat.lt_succ_self m,C2,FP,h2,Di,N⟩
     |_=>exact F.elim
   ·have ey:y=⟨#[]⟩:=Str.ext' (Array.size_eq_zero_iff.mp Mr)
    rw[if_pos ey] at h
    cases h
    obtain⟨AM,Bf⟩:=Nb (u:=.cit false) (tk:=A4.toks) Ax hc₂ Jr sb ⟨_,Xp⟩ (λv' z=>by
     obtain⟨a',rfl,g',_⟩:=z
     obtain rfl:=Ax.uniq _ _ _ _ g' Jr
     exact⟨_,rfl,Jr,λh=>(nomatch h),λ_=>Xp⟩) Ax.stat.tok
    obtain⟨Ec,Di⟩:=Hj (tk:=A4.toks) Bf Ax.stat.tok hk
    exact wpAny_execs_nil (k _ _ _ ((Au.trans A8).trans (AM.trans Ec)) Di trivial)
end
theorem cZ:Slot "method" "__call__" "method.__call__":=
 .of (owner:="method") (n:="__call__") (by rw[typeLookup_type,builtinLookup_eq_fast];kernel_rfl) (by decide+kernel) (by decide+kernel) (by decide+kernel)
  (by first|exact .inl (by decide+kernel)|exact .inr (by decide+kernel)) (by rw[isSubtype_type];kernel_rfl)
theorem d9:builtinKind "iter"=none:=by decide+kernel
theorem hU:plainId "iter"=true:=by decide+kernel
theorem Z6:fastLookup "function" "__get__"=some (some (.builtin "function.__get__")):=by kernel_rfl
theorem nD:fastLookup "function" "__set__"=some none:=by kernel_rfl
theorem aY:fastLookup "function" "__delete__"=some none:=by kernel_rfl
section
variable {K:Frag}
theorem o7{f:Addr}(ht:typeIn K (.ref f)=some (.type "function")):specialIn K (.ref f) "__get__"=some (some (.builtin "function.__get__"))/\takesIn K (.ref f)=some false:=by
 have e:∀name,specialIn K (.ref f) name=fastLookup "function" name:= λname=>by unfold specialIn;rw[ht];rfl
 refine⟨(e _).trans Z6,?_⟩
 unfold takesIn
 rw[e,nD,e,aY];rfl
theorem mA{od:Obj}{name:Str}{f:Addr}(hh:hasDictIn K C=true)(ha:findIn K (.ref C) name=some (some (.ref f)))(ht:typeIn K (.ref f)=some (.type "function"))(hc:copiedNames.contains name=false)(hl:lookIn name od=some none):
 findObj K C (some od) name=some (.bind (.builtin "function.__get__") (.ref f)):=by
 refine Ak (any_some hh) λcd vD hd=>?_
 obtain⟨hg,C1⟩:=o7 ht
 unfold findObj
 have ho:PySem.W.ownOf cd (some od) name=some none:=by unfold PySem.W.ownOf;rw[if_pos hd];exact hl
 rw[vD,Option.bind_some,ha,Option.bind_some]
 simp only[hg,C1,Option.bind_some,ho,hc,Bool.false_and,Bool.false_eq_true,if_false]
theorem Zb(C:ClsK w c top K)(I:Inv c G s env ρ){push signs:List AV}(X:LXs c G s.heap x line push signs L){m:Str}{f:Addr}(hf:findIn K (.ref c.C) m=some (some (.ref f)))(ht:typeIn K (.ref f)=some (.type "function"))(hc:copiedNames.contains m=false)
 {Q:Value->Shared->Prop} (h:Q (.ref s.heap.objs.size) {s with heap:=s.heap.push (methodObj (.ref f) (.ref L.a)),toks:=s.toks+1}):wpAny (model prog w) A (getAttr (.ref L.a) m ex) Q E s:=
 get_bind (C.here I) X.inst C.ga (mA C.dict hf ht hc (S2 (C.notField hf))) C.gt (wpAny_call (fn_get (s:={s with toks:=s.toks+1}) (C.here (I.toks _)) ht (handed_on rfl h)))
theorem mW{f:Value}{b:Value}{t:Tok}(hm:s.heap.get? me=some (methodObj f b))(h:Q (.ref s.heap.objs.size) {s with heap:=s.heap.push (L2 me t)}):
 wpAny (model prog w) A (call (.builtin "iter") [.ref me,.str "" t]) Q E s:=by
 refine call_function_entry d9 hU Y1 (hH _ _) ?_
 unfold Builtin.«iter»
 refine wpAny_bind (wpAny_of_eq (a:=[Value.ref me,Value.str "" t]) rfl ?_)
 dsimp only
 refine wpAny_bind (wpAny_specialOf (T:="method") ⟨_,hm,rfl⟩ cZ.lookup ?_)
 rw[if_neg (by decide)]
 refine wpAny_bind (wpAny_rule (wpAny_bind ?_))
 unfold newFields
 exact wpAny_newObj_type (wpAny_pure ⟨_,rfl,h⟩) (by size_fits)
theorem cS(I:Inv c G s env ρ)(g:G a=none)(d:Ao.heap.get? a=none)(l:∃o,s.heap.get? a=some o)(b:c.base.get? a=none)(hx:ρ.get x=none):Gr c Ao G s ρ x (G.put a (.own x j)):=by
 refine⟨Gh.put_up g,λb' r e=>?_,λb' OJ k e e'=>?_⟩
 ·rcases Gh.put_dn b' r e with⟨rfl,rfl⟩|e
  ·exact .inr ⟨g,d,l,b,hx,j,rfl⟩
  ·exact .inl e
 ·have no:∀b k,G b≠some (.own x k):= λb k e=>by
   have:=I.res b x k e
   rw[hx] at this;exact Ck this
  rcases Gh.put_dn b' _ e with⟨rfl,_⟩|e
  ·rcases Gh.put_dn OJ _ e' with⟨rfl,_⟩|e'
   ·rfl
   ·exact absurd e' (no _ _)
  ·exact absurd e (no _ _)
theorem SX.iter(T:Bx c top)(C:ClsK w c top K){p:Pos}(hg:BV sc "iter"=true){u:Unit}(hc:Vq sc args ρ=some u)(hx:ρ.get x=none)(hb:Cy sc x (.cit true) ρ=some ρ'):SX prog w c n sc (.Assign [.Name x p] (.Call (.Name "iter" pf) args [] cp) pos) ρ .next ρ':=by
 revert hc;refine Bv λa b Mw hc=>?_
 refine Ak (CP hc) λBB ho hc=>?_;obtain⟨o,m,mp⟩:=BB
 refine Ak (CP hc) λBB hy hc=>?_;obtain⟨y,l,q,t⟩:=BB
 revert hc;refine Ai λv hv hc=>?_
 revert hc;refine Ai λst hst hc=>?_
 refine DG (of_decide_eq_true (AI hc)) λBB Bc hz=>?_;obtain rfl:=BB;obtain rfl:=Bc
 obtain rfl:=LH Mw
 have ha:a=.Attribute o "_read_char" mp:=by
  exact(FD ho:)
 subst ha
 obtain⟨⟨py,rfl⟩,Sk⟩:=HS hy
 refine DS (L7 hv) λkb jb pb B2 hk=>?_;obtain rfl:=B2
 have H9:st="":=Str.ext' (by
  have:st.cps.size=0:=hz
  rw[Array.size_eq_zero_iff.mp this];rfl)
 have E6:kb=.str "":=by
  rw[MU hst,H9] at hk
  exact iP hk
 subst E6
 refine Cf (C.rd) λfa KL So FK=>?_
 intro A env G s Q E hA Ag I k
 refine wpAny_Assign_Name (wpAny_Call_ofName (Iw T I Ag hg rfl T.iter ?_)) rfl
 have e1:starEach [.Attribute (.Name "self" py) "_read_char" mp,.Constant (.str "") jb pb] env=[(false,eval (.Attribute (.Name "self" py) "_read_char" mp) env),(false,eval (.Constant (.str "") jb pb) env)]:=by
  rw[D7 rfl,D7 rfl];rfl
 refine callWith_builtin (by rw[e1];rfl) (Iy rfl rfl ?_)
 refine Attribute_name (CF I Sk λv' z=>?_)
 revert z;refine Cw λL Bc X=>?_;obtain rfl:=Bc
 refine Zb C I X So FK (by decide) ?_
 rw[D7 (by rfl)]
 refine spliced_cons (wpAny_Constant_str (k:=jb) (pos:=pb) (spliced_nil (wpAny_evalAll_nil ?_)))
 refine mW (Heap.get?_push_size _ rfl) ?_
 obtain⟨Au,An⟩:=Li I (o:=methodObj (.ref fa) (.ref L.a)) rfl
 have Ax:=An.toks (s.toks+1+1)
 have A8:=Au.trans (Nx.toks (s.toks+1+1))
 have Rv:(s.heap.push (methodObj (.ref fa) (.ref L.a))).get? (s.heap.push (methodObj (.ref fa) (.ref L.a))).objs.size=none:=Heap.get?_none_of_le (Nat.le_refl _)
 have Bf:=Ax.grow (L2 s.heap.objs.size (s.toks+1))
 have AM:=A8.trans (Nx.grow (L2 s.heap.objs.size (s.toks+1)))
 have nor:=Ax.fresh Rv
 refine GG Bf AM Ag.1 hb (cS (j:=0) Bf nor (A8.dead Rv) ⟨_,Heap.get?_push_size _ rfl⟩ (Ax.baseNone Rv) hx) ⟨_,rfl,Gh.put_self ..,λ_=>⟨s.heap.objs.size,fa,L.a,s.toks+1,KL,Heap.get?_push_size _ rfl,?_,?_⟩,λh=>(nomatch h)⟩ λs' N' I'=>k _ _ _ N' I' trivial
 ·exact Gh.put_up nor _ _ (Gh.put_self ..)
 ·exact Gh.put_up nor _ _ (Gh.put_up (I.fresh (Heap.get?_none_of_le (Nat.le_refl _))) _ _ X.ga)
end
noncomputable def oT(l:List Nat)(i:Nat):Nat:=l.getD i 0
noncomputable def MK(l:List Pos)(i:Nat):Pos:=l.getD i default
theorem UK:∃(q:Nat->Pos) (l1 l3:Nat) (mo:List (Str×Const)),
 B4 (CW PySem.Challenge.pw_sc0059_01.main.body) "__init__"=some ⟨⟨[],[⟨"self",none,(q 0)⟩,⟨"fp",none,(q 1)⟩],none,[],[],none,[]⟩,
  [.Assign [.Attribute (.Name "self" (q 2)) "lineno" (q 3)] (.Constant (.int 1) l1 (q 4)) (q 5),
   .Assign [.Attribute (.Name "self" (q 6)) "instream" (q 7)] (.Name "fp" (q 8)) (q 9),
   .Assign [.Attribute (.Name "self" (q 10)) "whitespace" (q 11)] (.Constant (.str "\n\t\r ") l3 (q 12)) (q 13),
   .Assign [.Attribute (.Name "self" (q 14)) "pushback" (q 15)] (.List [] (q 16)) (q 17)],
  {kind:=.function,names:=[("self",.local),("fp",.local)],isGenerator:=false,isCoroutine:=false,more:=mo}⟩:=
 ⟨MK [_,_,_,_,_,_,_,_,_,_,_,_,_,_,_,_,_,_],_,_,_,rfl⟩
noncomputable def ZW(a b c d:Tok):Fin 4->Tok
 |0=>a
 |1=>b
 |2=>c
 |3=>d
section
variable {K:Frag}
structure MC (s:Shared) (dx L:Addr) (m:Str->Option Value) (h:Heap) (es:List DictEntry) (n:Nat):Prop where
 keep:∀b o,b≠dx->s.heap.get? b=some o->h.get? b=some o
 dict:h.get? dx=some (dictOf es n)
 ns:h.Ns L m
 ne:L≠dx
theorem Oq(C:ClsK w c top K)(Er:K.In s.heap){x dx L:Addr}(hx:s.heap.get? x=some (instObj c.C dx))(KV:x≠dx)(IA:c.base.get? dx=none){es:List DictEntry}{p:Pos}{attr:Str}{v:Value}{Q:Shared->Prop}
 (J:MC s dx L m h es n) (hL:env.locals=L) (hk:env.scope.kind=.function) (hs:env.kindOf "self"=some .local) (hm:m "self"=some (.ref x)) (hf:attr∈LI) (hl:(getL attr es).isSome=true) (hz:es.length<=900)
 (k:∀h',MC s dx L m h' (putL attr (PyData.keyHash w.params attr) (.str attr (tk+1)) v es) (putN attr es n)->(∀b o,b≠dx->h.get? b=some o->h'.get? b=some o)->Q {s with heap:=h',toks:=tk+2}):
 wpAny (model prog w) A (eval (.Name "self" p) env) (λov A4=>wpAny (model prog w) A (setAttr ov attr v) (λ_=>Q) E A4) E {s with heap:=h,toks:=tk}:=by
 subst hL
 refine wpAny_Name (wpAny_loadName_local hk hs J.ns hm ?_) rfl
 have q5:K.In h:= λa o e=>J.keep a o (λq=>by
  have:=(C.kin a o e).1
  rw[q,IA] at this;exact Az this) (Er a o e)
 refine QN (s:={s with heap:=h,toks:=tk}) q5 (J.keep _ _ KV hx) J.dict C.sa C.over (C.plain _ hf) C.dict hl hz ?_
 have sb:Heap.SameBut dx h (h.update dx (Obj.putName attr (PyData.keyHash w.params attr) (.str attr (tk+1)) v)):=Heap.SameBut.update ..
 have up:∀b o,b≠dx->h.get? b=some o->(h.update dx (Obj.putName attr (PyData.keyHash w.params attr) (.str attr (tk+1)) v)).get? b=some o:= λb o nb e=>(sb.2 b nb).trans e
 refine k _ ⟨λb o nb e=>up b o nb (J.keep b o nb e),?_,J.ns.at' λo e=>up _ _ J.ne e,J.ne⟩ up
 rw[<-putName_dict]
 exact Heap.get?_update_self _ J.dict (by rw[putName_dict];rfl)
theorem aN(C:ClsK w c top K)(Er:K.In s.heap){fI:Addr}(F:Ei c d fI o fd)(hd:B4 (CW top) "__init__"=some d)(Ms:∀a o,c.base.get? a=some o->¬c.isTab a->s.heap.get? a=some o)(lim:s.heap.NoLimit)(F2:A.depth<990)
 {x dx:Addr} (hx:s.heap.get? x=some (instObj c.C dx)) (KD:s.heap.get? dx=some emptyDict) (IA:c.base.get? dx=none) {v:Value} {R:Result->Shared->Prop}
 (k:∀h' tk p ts t tw n,0<tk->(∀b o,b≠dx->s.heap.get? b=some o->h'.get? b=some o)->h'.get? dx=some (dictOf (Gf w.params ts (.int 1 t) v (.str "\n\t\r " tw) (.ref p)) n)->h'.get? p=some {cls:=.type "list",data:=.seq #[]}->s.heap.get? p=none->R (.ok (.ret .none)) {s with heap:=h',toks:=tk}):
 codeAny (model prog w) A (.call (.ref fI) ⟨[.ref x,v],[]⟩) R s:=by
 refine MW (UK) λq l1 l3 mo E8=>?_
 rw[C.htop,E8] at hd
 (revert hd;refine As λc0=>?_;subst c0)
 have KV:x≠dx:= λq=>by rw[q,KD] at hx;(revert hx;refine As λc0=>?_;injection c0 with c1 c2 c3 c4;injection c1)
 refine D3 (F.binds (λa v'=>a=.int 7->v'=v) s (.int 3) (.ref x) [.int 7] [v] [] [] [("self",.int 3),("fp",.int 7)] Ms rfl (.cons (λ_=>rfl) .nil) .nil (λh=>AV.noConfusion h) (λt h=>by cases h)) λp bb X9 e1 e2 Fx Jv=>?_
 (injection e1 with c0 c1;revert c0;refine FI λc2 c3=>?_;subst c2;clear c3;subst c1)
 cases Jv with
 |@cons _ _ I9 _ _ hv hn=>
 cases hn
 obtain rfl:v=I9:=(hv rfl).symm
 refine MS (F.code) λcc oc cvs t k1 k2 k3 k4 k5=>?_
 refine codeAny_call_def (by rw[show recursionLimit=1000 from rfl];exact Ah 0x16c3e8330116a3de3301 Aa F2) (Ms _ _ F.at' F.nt) F.data lim ⟨cc,oc,cvs,t,k1,Ms _ _ k2 k3,k4,k5⟩ F.body Fx (λy m=>by
  rw[F.scope] at m
  rcases List.mem_cons.mp m with rfl|m
  ·exact λh=>NameKind.noConfusion h
  ·rcases List.mem_singleton.mp m with rfl
   exact λh=>NameKind.noConfusion h) (λy m=>by
  rw[F.scope]
  rcases List.mem_cons.mp m with rfl|m
  ·rfl
  ·rcases List.mem_singleton.mp m with rfl
   rfl) (λuE CE hk=>?_) (by rw[F.scope]) (by rw[F.scope]) (by rw[F.scope])
 have hL:(callEnv fd s.heap.objs.size fI).locals=s.heap.objs.size:=rfl
 have KP:(callEnv fd s.heap.objs.size fI).scope.kind=.function:=by show fd.scope.kind=_;rw[F.scope]
 have hs:(callEnv fd s.heap.objs.size fI).kindOf "self"=some .local:=by show fd.scope.names.lookup _=_;rw[F.scope];rfl
 have hf:(callEnv fd s.heap.objs.size fI).kindOf "fp"=some .local:=by show fd.scope.names.lookup _=_;rw[F.scope];rfl
 generalize hen:callEnv fd s.heap.objs.size fI=env at hL KP hs hf ⊢
 have tU:s.heap.objs.size≠dx:= λq=>by
  rw[<-q] at KD
  exact Nat.lt_irrefl _ (Heap.lt_size KD)
 have J0:MC s dx s.heap.objs.size (λy=>([("self",Value.ref x),("fp",v)]:List (Str×Value)).reverse.lookup y) uE [] 0:=⟨λb o _ e=>hk b o e,hk _ _ KD,CE,tU⟩
 have hm:(λy=>([("self",Value.ref x),("fp",v)]:List (Str×Value)).reverse.lookup y) "self"=some (.ref x):=by rfl
 have vH:(λy=>([("self",Value.ref x),("fp",v)]:List (Str×Value)).reverse.lookup y) "fp"=some v:=by rfl
 refine wpAny_execs_cons (plainObj_wpAny_Assign_Attribute ?_)
 refine wpAny_Constant_int ?_
 refine Oq (attr:="lineno") C Er hx KV IA J0 hL KP hs hm (by decide) (by rfl) (by decide) λh1 J1 u1=>?_
 dsimp only
 refine wpAny_execs_cons (plainObj_wpAny_Assign_Attribute ?_)
 refine wpAny_Name (wpAny_loadName_local KP hf (hL▸J1.ns) vH ?_) rfl
 refine Oq (attr:="instream") C Er hx KV IA J1 hL KP hs hm (by decide) (by rfl) (by show 1<=900;exact AE 0x14c3843312 Aa) λh2 J2 u2=>?_
 dsimp only
 refine wpAny_execs_cons (plainObj_wpAny_Assign_Attribute ?_)
 refine wpAny_Constant_str ?_
 refine Oq (attr:="whitespace") C Er hx KV IA J2 hL KP hs hm (by decide) (by rfl) (by show 2<=900;exact AE 0x14c3843322 Aa) λh3 J3 u3=>?_
 dsimp only
 refine wpAny_execs_cons (plainObj_wpAny_Assign_Attribute ?_)
 refine wpAny_List_spliced (spliced_nil ⟨Nat.zero_le _,?_⟩)
 have up:∀b o,h3.get? b=some o->(h3.push {cls:=.type "list",data:=.seq #[]}).get? b=some o:= λb o e=>Heap.get?_push_of_some _ e
 have qM:=(⟨λb o nb e=>up _ _ (J3.keep b o nb e),up _ _ J3.dict,J3.ns.at' λo e=>up _ _ e,J3.ne⟩:MC s dx _ _ (h3.push {cls:=.type "list",data:=.seq #[]}) _ _)
 refine Oq (attr:="pushback") C Er hx KV IA qM hL KP hs hm (by decide) (by rfl) (by show 3<=900;exact AE 0x14c3843332 Aa) λh4 J4 u4=>wpAny_execs_nil ?_
 have dp:h3.get? h3.objs.size=none:=Heap.get?_none_of_le (Nat.le_refl _)
 have np:h3.objs.size≠dx:= λq=>by
  have:=J3.dict
  rw[<-q,dp] at this;exact Az this
 refine k h4 _ h3.objs.size (ZW _ _ _ _) _ _ _ (Nat.succ_pos _) J4.keep J4.dict (u4 _ _ np (Heap.get?_push_size _ rfl)) ?_
 cases e:s.heap.get? h3.objs.size with
 |none=>rfl
 |some o=>
  have:=J3.keep _ _ np e
  rw[dp] at this;exact Az this
end
section
variable {K:Frag}
theorem eP(C:ClsK w c top K)(Er:K.In s.heap)(Ms:∀a o,c.base.get? a=some o->¬c.isTab a->s.heap.get? a=some o)(uJ:∀a o,c.base.get? a=some o->∃o',s.heap.get? a=some o')(lim:s.heap.NoLimit)(F2:A.depth<940){v:Value}{R:Result->Shared->Prop}
 (k:∀h' tk a d p ts t tw n,0<tk->(∀b o,s.heap.get? b=some o->h'.get? b=some o)->h'.get? a=some (instObj c.C d)->h'.get? d=some (dictOf (Gf w.params ts (.int 1 t) v (.str "\n\t\r " tw) (.ref p)) n)->h'.get? p=some {cls:=.type "list",data:=.seq #[]}->
  s.heap.get? a=none->s.heap.get? d=none->s.heap.get? p=none->R (.ok (.ret (.ref a))) {s with heap:=h',toks:=tk}):
 codeAny (model prog w) A (.call (.ref c.C) ⟨[v],[]⟩) R s:=by
 refine MW (UK) λq l1 l3 mo E8=>?_
 rw[<-C.htop] at E8
 refine EW (C.meth _ _ E8) λfI o fd hf ht F=>?_
 have up:∀b o,s.heap.get? b=some o->((s.heap.push emptyDict).push (instObj c.C s.heap.objs.size)).get? b=some o:= λb o e=>Heap.get?_push_of_some _ (Heap.get?_push_of_some _ e)
 have dd:s.heap.get? s.heap.objs.size=none:=Heap.get?_none_of_le (Nat.le_refl _)
 have da:s.heap.get? (s.heap.objs.size+1)=none:=Heap.get?_none_of_le (Nat.le_succ _)
 have z:(s.heap.push emptyDict).objs.size=s.heap.objs.size+1:=Heap.size_push ..
 have ha:((s.heap.push emptyDict).push (instObj c.C s.heap.objs.size)).get? (s.heap.objs.size+1)=some (instObj c.C s.heap.objs.size):=by
  rw[<-z];exact Heap.get?_push_size _ rfl
 have hd:((s.heap.push emptyDict).push (instObj c.C s.heap.objs.size)).get? s.heap.objs.size=some emptyDict:=Heap.get?_push_of_some _ (Heap.get?_push_size _ rfl)
 have IA:c.base.get? s.heap.objs.size=none:=by
  cases e:c.base.get? s.heap.objs.size with
  |none=>rfl
  |some o=>
   obtain⟨o',e'⟩:=uJ _ _ e
   rw[dd] at e';exact Az e'
 obtain⟨hh,g,dr,tk₀,os⟩:=s
 refine make_core (makes_of Er C.makes) (looks_findIn Er hf) (λself=>bind_fn Er self ht) (.inl rfl) ?_
 have hw:(Code.builtin "type.__call__" ⟨[.ref c.C,v],[]⟩).weight<=50:=by
  first
   |exact Nat.le_trans (Nat.le_of_eq (by rfl:_=0)) (by decide)
   |exact Nat.le_trans (Nat.le_of_eq (by rfl:_=1)) (by decide)
 refine aN (s:=⟨(hh.push emptyDict).push (instObj c.C hh.objs.size),g,dr,tk₀,os⟩) C (Er.keeps up) F E8 (λa o e t=>up _ _ (Ms a o e t)) (lim.keeps up) ?_ ha hd IA λh' tk p ts t tw n C1 hk KD hp r6=>?_
 ·show A.depth+(Code.builtin "type.__call__" ⟨[.ref c.C,v],[]⟩).weight<990;exact Ac 0x16c3de334110114a32231116a3ac3301 Aa hw F2
 ·have nn:∀b o,hh.get? b=some o->b≠hh.objs.size:= λb o e q=>by
   have dd:hh.get? hh.objs.size=none:=dd
   rw[q,dd] at e;exact Az e
  refine⟨rfl,k h' tk _ _ p ts t tw n C1 (λb o e=>hk b o (nn b o e) (up b o e)) (hk _ _ (Nat.succ_ne_self _) ha) KD hp da dd ?_⟩
  cases e:hh.get? p with
  |none=>rfl
  |some o=>
   have:=up _ _ e
   rw[r6] at this;exact Az this
end
noncomputable def Nv(mo:List (Str×Const)):Scope:={kind:=.function,names:=[("text",.local),("stream",.local),("signs",.cell),("list",.globalImplicit),("_netrclex",.globalImplicit)],isGenerator:=false,isCoroutine:=false,more:=mo}
noncomputable def nJ(OD:List (Str×Const)):Scope:={kind:=.function,names:=[("size",.local),("signs",.free)],isGenerator:=false,isCoroutine:=false,more:=OD}
theorem Up:∃(q:Nat->Pos) (lb:Nat) (mo:List (Str×Const)) (ps:Arguments) (OQ:PySem.Expr) (OX:Scope),
 B4 PySem.Challenge.pw_sc0059_01.main.body "_law_lexer"=some ⟨⟨[],[⟨"text",none,(q 0)⟩],none,[],[],none,[]⟩,
  [.Assign [.Name "signs" (q 1)] (.Call (.Name "list" (q 2)) [.Name "text" (q 3)] [] (q 4)) (q 5),
   .Assign [.Name "stream" (q 6)] (.Call (.Name "_netrclex" (q 7)) [.Constant .none lb (q 8)] [] (q 9)) (q 10),
   .Assign [.Attribute (.Name "stream" (q 11)) "read" (q 12)] (.Lambda ps OQ OX (q 13)) (q 14),
   .Return (some (.Call (.Name "_netrclex" (q 15)) [.Name "stream" (q 16)] [] (q 17))) (q 18)],
  Nv mo⟩/\
 ps.defaults=[]/\ps.kw_defaults=[]/\(∃OD,OX=nJ OD):=
 ⟨MK [_,_,_,_,_,_,_,_,_,_,_,_,_,_,_,_,_,_,_],_,_,_,_,_,rfl,rfl,rfl,_,rfl⟩
section
variable {K:Frag}
theorem kE(Mp:c.base.NoLimit/\¬c.isTab cStatics)(F:Ei c d a o fd)(Hc:d.sc.isGenerator=false)(F2:A.depth<990)(I:Inv c G s env ρ)(L:Lend G Gb s.heap)
 {b:List (Str×AV)} {b':List (Str×Value)} (Fx:BindsTo s fd ⟨Ba,Ci⟩ b') (hb:BR (OR c Gb s.heap) b b') (hn:∀q∈b,d.sc.names.lookup q.1=some .local∨d.sc.names.lookup q.1=some .cell)
 (Jq:∀a p k,Gb a=some (.own p k)->(b.reverse.lookup p).isSome=true) {R:Result->Shared->Prop}
 (h:∀AN si E',Cu c d.sc AN->Jp c Gb s si AN ⟨b.reverse,λ_=>false⟩->si.os=s.os->Inv c (Gb.enter s.heap.objs.size AN) si AN ⟨b.reverse,λ_=>false⟩->
  wpAny (model prog w) (A.deeper AN) (execs d.body AN) (λf so=>R (.ok (.ret (match f with|.ret v=>v|_=>.none))) so) E' si):codeAny (model prog w) A (.call (.ref a) ⟨Ba,Ci⟩) R s:=by
 have hk:fd.scope.kind=.function:=F.scope▸F.kind
 refine MS (F.code) λcc oc cvs t e1 e2 e3 e4 e5=>?_
 refine codeAny_call_function (by rw[show recursionLimit=1000 from rfl];exact Ah 0x16c3e8330116a3de3301 Aa F2) (I.stat.keep _ _ F.at' F.nt) F.data (F.scope▸F.co) (F.scope▸Hc) F.body ⟨cc,oc,cvs,t,e1,I.stat.keep _ _ e2 e3,e4,e5⟩ (Fx _ _ _ _ ?_)
 rw[F.clos]
 refine wpAny_with_toks I.stat.tok (wpAny_newFunctionEnv_cells hk (λx hx=>?_) λAN he s' X ht=>?_)
 ·refine Ak (hb.names x hx) λp hp q=>?_
  rw[F.scope,<-q]
  refine(hn p hp).imp id λz=>⟨z,M7 (.inl (mem_of_lookup z))⟩
 ·rw[F.scope,F.glob,F.blt] at he
  have S:=Vv F.kind hb hn he X Jq ht
  have J:=enter I L S
  refine EU (X.toInCall.same) λh' tk ET=>?_
  refine⟨?_,codeAny_func ?_⟩
  ·obtain⟨⟨mc,CZ,hm⟩,hc⟩:=Mp
   exact⟨mc,CZ.at' λo e=>S.keep _ _ (I.stat.keep _ _ e hc),hm⟩
  ·exact h AN s' _ ⟨by rw[he];rfl,λf hf=>by rw[he];exact F.host f hf⟩ S (by rw[ET]) J
theorem call_cls(T:Bx c top)(C:ClsK w c top K)(Ag:Cu c sc env)(I:Inv c G s env ρ)(hg:BV sc "_netrclex"=true)(F2:A.depth<940){p:Pos}{a:PySem.Expr}(ha:BI a=true){v:Value}
 (hv:∀Q:Value->Shared->Prop,(∀tk,s.toks<=tk->Q v {s with toks:=tk})->wpAny (model prog w) A (eval a env) Q E s)
 (k:∀h' tk a d p ts t tw n,0<tk->(∀b o,s.heap.get? b=some o->h'.get? b=some o)->h'.get? a=some (instObj c.C d)->h'.get? d=some (dictOf (Gf w.params ts (.int 1 t) v (.str "\n\t\r " tw) (.ref p)) n)->h'.get? p=some {cls:=.type "list",data:=.seq #[]}->
  s.heap.get? a=none->s.heap.get? d=none->s.heap.get? p=none->Q (.ref a) {s with heap:=h',toks:=tk}):
 wpAny (model prog w) A (eval (.Call (.Name "_netrclex" p) [a] [] pos) env) Q E s:=by
 refine wpAny_Call_ofName (Ux T I Ag hg rfl C.glob ?_)
 have e1:starEach [a] env=[(false,eval a env)]:=by rw[D7 ha];rfl
 have Er:K.In s.heap:=C.here I
 refine callWith_KW (e:=a) (rest:=[]) (C.here I) C.keep rfl ?_ (by rw[e1];rfl) (by rw[e1];rfl)
 rw[e1]
 refine spliced_cons (hv _ λtk C1=>spliced_nil (wpAny_evalAll_nil ⟨Er,?_⟩))
 refine wpAny_call (eP (s:={s with toks:=tk}) C Er I.stat.keep (λa o e=>I.liveBase e) ?_ F2 λh' tk a d p ts t tw n z1 z2 z3 z4 z5 z6 z7 z8=>?_)
 ·refine Ak (T.lim) λmc CZ hm=>?_
  exact⟨mc,CZ.at' λo e=>I.stat.keep _ _ e T.nst,hm⟩
 ·exact k h' tk a d p ts t tw n z1 z2 z3 z4 z5 z6 z7 z8
end
structure ZB (c:Cx) (s:Shared) (Go:Gh) (so:Shared) (t:Str) (L:JT):Prop where
 ha:so.heap.get? L.a=some (instObj c.C L.d)
 hd:so.heap.get? L.d=some (dictOf (Gf c.P L.ts (.int 1 L.t) (.ref L.st) (.str "\n\t\r " L.tw) (.ref L.p)) L.n)
 hp:so.heap.get? L.p=some {cls:=.type "list",data:=.seq #[]}
 hg:∃vs,PL so.heap L.g vs/\VRs Go (signsOf t) vs.toList
 hst:so.heap.get? L.st=some (instObj c.C L.d2)
 hd2:so.heap.get? L.d2=some {cls:=.type "dict",data:=.dict L.es.toArray L.n2}
 za:s.heap.get? L.a=none
 zd:s.heap.get? L.d=none
 zp:s.heap.get? L.p=none
 zg:s.heap.get? L.g=none
 zst:s.heap.get? L.st=none
 zd2:s.heap.get? L.d2=none
 na:Go L.a=none
 nd:Go L.d=none
 np:Go L.p=none
 ng:Go L.g=some (.own "signs" 0)
 nst:Go L.st=none
 nd2:Go L.d2=none
 ne1:L.a≠L.st
 ne2:L.d≠L.d2
 ne3:L.p≠L.g
 read:(L.es.find? λe:DictEntry=>e.key.isStr "read")=some ⟨PyData.keyHash c.P "read",.str "read" L.tr,.ref L.f⟩
 gf:Go L.f=some (.fro L.o)
 cls:L.o.cls=.type "function"
 data:L.o.data=.func L.fd
 glob:L.fd.globals=mainGlobals
 blt:L.fd.builtins=builtinsNs
 code:L.fd.code=.ref L.c'
 gc:Go L.c'=some (.fro L.oc')
 cdata:L.oc'.data=.fields L.cvs
 cname:L.cvs[1]? =some (.str L.fd.qualname L.tc)
 body:L.fd.body=.expr L.b
 text:(B4 PySem.Challenge.pw_sc0059_01.main.body "_law_lexer").bind (λd=>JY d.body)=some (L.fd.params,L.b,L.fd.scope)
 clos:L.fd.closure=[(("signs":Str),L.cc)]
 gcc:Go L.cc=some (.fro L.oc)
 cell:L.oc.data=.cell (some (.ref L.g))
 dflt:L.fd.defaults=.none
theorem VRs.of_get:∀{xs:List AV} {vs:List Value},xs.length=vs.length->(∀(j:Nat) (x:AV) (v:Value),xs[j]? =some x->vs[j]? =some v->VR G x v)->VRs G xs vs:=by
 intro xs
 induction xs with
 |nil=>
  intro vs h _
  rw[List.length_eq_zero_iff.mp h.symm]
  exact .nil
 |cons x xs ih=>
  intro vs h k
  cases vs with
  |nil=>exact nomatch h
  |cons v vs=>exact .cons (k 0 x v rfl rfl) (ih (Nat.succ.inj h) λj a b e e'=>k (j+1) a b e e')
section
variable {K:Frag}
theorem ZC(T:Bx c top)(C:ClsK w c top K)(hA:A.handled=none)(F2:A.depth<939)(I:Inv c G s env ρ){fa:Addr}(hd:B4 top "_law_lexer"=some d)(F:Ei c d fa o fd){t:Str}(ht:t.length<=Bg)
 (k:∀Go so AN KI Cj L,Ij c G (G.lend λ_=>none) s so Go AN KI Cj->ZB c s Go so t L->Q (.ref L.a) so):wpAny (model prog w) A (call (.ref fa) [.str t tt]) Q E s:=by
 refine jQ (Up) λq lb mo ps OQ OX E8 tM sA OD uR=>?_
 have FS:=hd
 rw[C.htop,E8] at FS
 (revert FS;refine As λc0=>?_;subst c0)
 subst uR
 refine D3 (F.binds (λ_ _=>True) s (.str t) (.str t tt) [] [] [] [] [("text",.str t)] I.stat.keep rfl .nil .nil trivial (λ_=>trivial)) λp bb X9 e1 e2 Fx Jv=>?_
 (injection e1 with c0 c1;revert c0;refine FI λc2 c3=>?_;subst c2;clear c3;subst c1)
 cases Jv
 have Ld:Lend G (G.lend λ_=>none) s.heap:=Lend.plain
 refine wpAny_call (kE ⟨T.lim,T.nst⟩ F rfl (by exact Ah 0x16c3de330116a3ab3301 Aa F2) I Ld Fx (.cons (VR.str).or .nil) (λq m=>by rcases List.mem_singleton.mp m with rfl;exact .inl rfl) (λa p k e=>absurd e JX) λAN si E' FZ S RI J=>?_)
 have u8:(A.deeper AN).handled=none:=hA
 have X0:(A.deeper AN).depth<940:=by show A.depth+1<940;exact Ah 0x16c3ac334120116a3ab3301 Aa F2
 refine wpAny_execs_cons (wpAny_Assign_Name (wpAny_Call_ofName (Iw T J FZ rfl rfl C.list ?_)) rfl)
 refine PyProof.Rows.callWith_type (by rw[D7 rfl];rfl) (IE (by rw[D7 rfl];rfl) ?_)
 rw[D7 rfl]
 refine spliced_cons (CF (sc:=Nv mo) J (v:=.str t) rfl λv' z=>spliced_nil ?_)
 cases z
 refine wpAny_with_toks J.stat.tok (call_list_str u8 t _ (hn:=Hp ht) λh1 pV acc qV pO uV XO qS=>?_)
 have dg:si.heap.get? si.heap.objs.size=none:=Heap.get?_none_of_le (Nat.le_refl _)
 obtain⟨N1,J1⟩:=Hj J qS pO
 have V1:VRs ((G.lend λ_=>none).enter s.heap.objs.size AN) (signsOf t) acc.toList:=by
  refine VRs.of_get (by unfold signsOf;simp[XO.1]) λj x v e e'=>?_
  rw[Th] at e
  rw[Array.getElem?_toList] at e'
  refine Dc (XO.2 j v e') λch u e2 B2=>?_;obtain rfl:=B2
  rw[e2] at e
  (revert e;refine As λc0=>?_;subst c0);exact .str
 have F1:Kt c ((G.lend λ_=>none).enter s.heap.objs.size AN) si {si with heap:=h1,toks:=pV} si.heap.objs.size (signsOf t) acc:=⟨J.fresh dg,⟨qV,uV⟩,dg,J.baseNone dg,V1⟩
 obtain⟨g1,o1⟩:=Vz J1 N1 F1 (x:="signs") rfl
 refine GG J1 N1 FZ.1 (v:=.ol (signsOf t)) (ρ':=R.mk [("text",.str t),("signs",.ol (signsOf t))] λ_=>false) rfl g1 o1 λs2 N2 J2=>?_
 generalize hG2:((G.lend λ_=>none).enter s.heap.objs.size AN).put si.heap.objs.size (.own "signs" 0)=G2 at*
 have r7:G2 si.heap.objs.size=some (.own "signs" 0):=by rw[<-hG2];exact Gh.put_self ..
 dsimp only
 refine wpAny_execs_cons (wpAny_Assign_Name (call_cls T C FZ J2 rfl X0 (a:=.Constant .none lb (q 8)) rfl (λQ h=>wpAny_Constant_none (h _ (Nat.le_refl _))) λh3 vY st I8 p2 XZ t3 XM n3 tF sT hst hd2 vX zst zd2 v3=>?_) rfl)
 obtain⟨N3,J3⟩:=Hj J2 tF sT
 have Sn:=J2.fresh zst
 have R8:=J2.fresh zd2
 have XS:=J2.baseNone zst
 have RL:=J2.baseNone zd2
 have Pb:∀{a},c.base.get? a=none->¬c.isTab a:= λ{a} e ⟨t,m,q⟩=>by
  have:=(J2.stat.tab t m).2
  rw[q,e] at this;exact Az this
 refine GG J3 (.refl ..) FZ.1 (v:=.raw st) (ρ':=R.mk [("text",.str t),("signs",.ol (signsOf t)),("stream",.raw st)] λ_=>false) rfl (J3.gr _ _) (VR.raw).or λs4 N4 J4=>?_
 have Yt:=N4.keep _ _ hst Sn (Pb XS)
 have Ya:=N4.keep _ _ hd2 R8 (Pb RL)
 dsimp only
 refine wpAny_execs_cons (plainObj_wpAny_Assign_Attribute (Vs T FZ J4 (.refl ..) (f:="_law_lexer") rfl tM sA rfl λG5 s5 f o5 sS c5 tT tG t5 N5 J5 L5 O H=>?_))
 have OU:=N5.keep _ _ Yt Sn (Pb XS)
 have Sb:=N5.keep _ _ Ya R8 (Pb RL)
 have uK:=N5.new _ _ Yt Sn
 have Xg:=N5.new _ _ Ya R8
 refine CF (sc:=Nv mo) J5 (v:=.raw st) rfl λv' z=>?_
 cases z
 refine QN (C.here J5) OU Sb C.sa C.over (C.plain "read" (by decide)) C.dict (by rfl) (by show 4<=900;exact AE 0x14c3843342 Aa) ?_
 have n4:Nx c (R.mk [("text",.str t),("signs",.ol (signsOf t))] λ_=>false) G2 s2 _ G5 s5:=(N3.trans N4).trans N5
 have D6:(s5.heap.update I8 (Obj.putName "read" (PyData.keyHash w.params "read") (.str "read" (s5.toks+1)) (.ref f))).get? I8=some (dictOf (putL "read" (PyData.keyHash w.params "read") (.str "read" (s5.toks+1)) (.ref f) (Gf w.params XZ (.int 1 t3) .none (.str "\n\t\r " XM) (.ref p2))) (putN "read" (Gf w.params XZ (.int 1 t3) .none (.str "\n\t\r " XM) (.ref p2)) n3)):=by
  rw[<-putName_dict]
  exact Heap.get?_update_self _ Sb (by rw[putName_dict];rfl)
 have R3:Heap.SameBut I8 s5.heap (s5.heap.update I8 (Obj.putName "read" (PyData.keyHash w.params "read") (.str "read" (s5.toks+1)) (.ref f))):=Heap.SameBut.update ..
 obtain⟨N6,J6⟩:=Pu n4 J5 Xg RL zd2 R3
 generalize hh6:s5.heap.update I8 (Obj.putName "read" (PyData.keyHash w.params "read") (.str "read" (s5.toks+1)) (.ref f))=h6 at D6 R3 N6 J6 ⊢
 have Sh:=J6.toks (s5.toks+2)
 have sF:st≠I8:= λq=>by rw[q,Sb] at OU;(revert OU;refine As λc0=>?_;injection c0 with c1 c2 c3 c4;injection c1)
 have XC:h6.get? st=some (instObj c.C I8):=(R3.2 _ sF).trans OU
 dsimp only
 refine wpAny_execs_cons (wpAny_Return_some (call_cls T C FZ Sh rfl X0 (a:=.Name "stream" (q 16)) rfl (λQ h=>CF (sc:=Nv mo) Sh (v:=.raw st) rfl λv' z=>by cases z;exact h _ (Nat.le_refl _)) λh7 sZ a d p rG t7 pX n7 RR KG ha hd hp za zd zp=>?_))
 obtain⟨N7,J7⟩:=Hj Sh RR KG
 have Ym:=((N2.trans N6).trans (Nx.toks (s5.toks+2))).trans N7
 refine D3 (J7.or (x:="signs") (v:=.ol (signsOf t)) rfl) λFv g vs B2 gg sO V7=>?_;obtain rfl:=B2
 refine Ro (H "signs" (List.mem_cons_of_mem _ List.mem_cons_self)) λcc oc vv v' e1 e2 e3 e4 e5 e6=>?_
 (revert e3;refine As λc0=>?_;subst c0)
 revert e6;refine Ma λg' _ Ar gg' _=>?_;obtain rfl:=Ar
 have eg:g'=g:=J4.uniq _ _ _ _ gg' (N5.own _ _ _ gg rfl)
 subst eg
 have rB:g'=si.heap.objs.size:=J2.uniq _ _ _ _ gg' r7
 have old:∀{b},si.heap.get? b=none->s.heap.get? b=none:= λ{b} e=>by
  cases q:s.heap.get? b with
  |none=>rfl
  |some o=>rw[S.keep _ _ q] at e;exact Ef e
 have RB:∀{b},h6.get? b=none->s.heap.get? b=none:= λ{b} e=>old ((N2.trans N6).dead (a:=b) e)
 have Xo:∀{b},s2.heap.get? b=none->s.heap.get? b=none:= λ{b} e=>old (N2.dead e)
 have R7:∀{b b' o},h6.get? b=some o->h6.get? b'=none->b'≠b:= λ{b b' o} e e' q=>by rw[q,e] at e';exact Ef e'
 have t6:∃o,h6.get? g'=some o:=J6.low _ _ gg
 refine k G5 _ AN ⟨[("text",.str t)],λ_=>false⟩ _ ⟨a,d,p,g',st,I8,f,c5,cc,rG,t7,pX,s5.toks+1,t5,n7,_,_,o5,oc,tT,sS,tG,OQ⟩ ⟨J7,λb q j e dd=>?_,came I Ld S RI Ym J7⟩
  ⟨ha,?_,hp,⟨vs,sO,V7⟩,KG _ _ XC,KG _ _ D6,RB za,RB zd,RB zp,old (rB▸dg),Xo zst,Xo zd2,J6.fresh za,J6.fresh zd,J6.fresh zp,gg,uK,Xg,R7 XC za,R7 D6 zd,t6.elim λ_ e=>R7 e zp,
   ?_,O.gf,O.cls,O.data,O.glob,O.blt,O.code,O.gc,O.cdata,O.cname,O.bod,?_,?_,e4,e5,O.dflt⟩
 ·have q:=Ym.own b _ _ e dd
  by_cases D4:b<s.heap.objs.size
  ·exact(Gh.enter_lt D4).symm.trans q
  ·rcases Gh.enter_rl D4 q with⟨_,z⟩|⟨_,z⟩<;>injection z
 ·rw[C.hP];exact hd
 ·rw[C.hP];rfl
 ·rw[E8,O.params,O.scp];rfl
 ·rw[O.clos]
  show[(("signs":Str),(AN.cells.lookup (Str.ofString "signs")).getD 0)]=_
  rw[e2];rfl
end
section
variable {K:Frag}
theorem Gr.more(g:Gr c Ao G s ρ x G')(n:G' a=none)(d:Ao.heap.get? a=none)(l:∃o,s.heap.get? a=some o)(b:c.base.get? a=none)(hx:ρ.get x=none)(no:∀b,G' b≠some (.own x j)):Gr c Ao G s ρ x (G'.put a (.own x j)):=by
 have nG:G a=none:=by
  cases e:G a with
  |none=>rfl
  |some r=>rw[g.g1 _ _ e] at n;exact Ef n
 refine⟨λb' r e=>Gh.put_up n _ _ (g.g1 _ _ e),λb' r e=>?_,λb' OJ k e e'=>?_⟩
 ·rcases Gh.put_dn b' r e with⟨rfl,rfl⟩|e
  ·exact .inr ⟨nG,d,l,b,hx,j,rfl⟩
  ·exact g.g2 _ _ e
 ·rcases Gh.put_dn b' _ e with⟨h1,q⟩|f
  ·cases q
   rcases Gh.put_dn OJ _ e' with⟨h2,_⟩|f'
   ·exact h1.trans h2.symm
   ·exact absurd f' (no _)
  ·rcases Gh.put_dn OJ _ e' with⟨_,q⟩|f'
   ·cases q;exact absurd f (no _)
   ·exact g.g4 _ _ _ f f'
theorem Kd{i:Nat}(h:∀b,G b≠some (.own x j))(ne:i≠j)(b:Addr):G.put a (.own x i) b≠some (.own x j):= λe=>by
 rcases Gh.put_dn b _ e with⟨_,q⟩|e
 ·cases q;exact ne rfl
 ·exact h b e
theorem SX.lexer(T:Bx c top)(C:ClsK w c top K)(hr:Bd prog w c n r){p:Pos}{a:PySem.Expr}{t:Str}(hg:BV sc "_law_lexer"=true)(ha:BI a=true)(hu:r.e sc a ρ=some (u,Aw))(ht:u.str?=some t)(hx:Aw.get x=none)(hl:t.length<=Bg)
 (hb:Cy sc x (.lex 1 [] (signsOf t)) Aw=some ρ'):SX prog w c n sc (.Assign [.Name x p] (.Call (.Name "_law_lexer" pf) [a] [] cp) pos) ρ .next ρ':=by
 refine UZ (Up) λq lb mo ps OQ OX E8 _=>?_
 rw[<-C.htop] at E8
 refine DS (T.fn _ _ E8 rfl) λfa o fd hf F=>?_
 intro A env G s Q E hA Ag I k
 refine wpAny_Assign_Name (Kv T hg rfl Ag I F hf (Iy ha rfl ((hr.e _ _ _ _ _ hu).then hA Ag I (.refl ..) λAv Ad Fv Au An B5 Bj=>?_))) rfl
 obtain⟨tt,rfl⟩:=VR.isStr ht Bj
 refine spliced_nil (wpAny_evalAll_nil ⟨An.stat.keep _ _ F.at' F.nt,ZC T C hA.1 (by have:=hA.2.1;exact Ac 0x16c3ab330114a3843344151101 Aa this) An E8 F hl λGo so AN KI Cj L D NL=>?_⟩)
 refine DG (MB An Lend.plain (λ_ _ _=>JX) D) λKc Ec Di=>?_
 have le:Go.Le (Av.back Go):=Nu An Lend.plain Kc λa o e=>by
  refine Ak (Nj e) λ_ q z=>?_
  (injection q with c0;subst c0);exact z
 have NT:=Au.trans Ec
 have bk:∀{b},Ad.heap.get? b=none->(∀o,Go b≠some (.fro o))->Av.back Go b=none:= λ{b} e h=>by
  unfold Gh.back
  rw[An.fresh e]
  cases q:Go b with
  |none=>rfl
  |some r=>
   cases r with
   |fro o=>exact absurd q (h o)
   |_=>rfl
 have nn:∀{b} {o:Obj},Go b=none->Go b≠some (.fro o):= λe q=>by rw[e] at q;exact Az q
 have ka:=bk NL.za λo=>nn NL.na
 have kd:=bk NL.zd λo=>nn NL.nd
 have kp:=bk NL.zp λo=>nn NL.np
 have kg:=bk NL.zg λo q=>by rw[NL.ng] at q;(revert q;refine As λc0=>?_;injection c0)
 have Rx:=bk NL.zst λo=>nn NL.nst
 have uI:=bk NL.zd2 λo=>nn NL.nd2
 refine Ak (NL.hg) λvs Bc B0=>?_;obtain⟨m,hgl⟩:=Bc
 have df:∀{b b':Addr} {o o':Obj},so.heap.get? b=some o->so.heap.get? b'=some o'->o≠o'->b≠b':= λe e' h q=>by
  subst q;rw[e] at e';exact h (Option.some.inj e')
 have FO:∀{o o':Obj},o.cls≠o'.cls->o≠o':= λh q=>h (congrArg Obj.cls q)
 have ID:∀{C:Addr} {t:String},Value.ref C≠Value.type t:= λh=>Value.noConfusion h
 have dl:Value.type "dict"≠Value.type "list":=by decide
 have n1:L.a≠L.d:=df NL.ha NL.hd (FO ID)
 have n2:L.a≠L.p:=df NL.ha NL.hp (FO ID)
 have n3:L.a≠L.g:=df NL.ha hgl (FO ID)
 have n4:L.d≠L.p:=df NL.hd NL.hp (FO dl)
 have n5:L.d≠L.g:=df NL.hd hgl (FO dl)
 have n6:L.st≠L.d:=df NL.hst NL.hd (FO ID)
 have n7:L.st≠L.p:=df NL.hst NL.hp (FO ID)
 have n8:L.st≠L.g:=df NL.hst hgl (FO ID)
 have n9:L.a≠L.d2:=df NL.ha NL.hd2 (FO ID)
 have sQ:L.d2≠L.p:=df NL.hd2 NL.hp (FO dl)
 have vG:L.d2≠L.g:=df NL.hd2 hgl (FO dl)
 have Xj:L.st≠L.d2:=df NL.hst NL.hd2 (FO ID)
 have R5:=Di.put Rx NL.hst (An.baseNone NL.zst)
 have Sm:=NT.put (o:=instObj c.C L.d2) (Au.dead NL.zst) Rx
 have RD:((Av.back Go).put L.st (.fro (instObj c.C L.d2))) L.d2=none:=(Gh.put_ne Xj.symm).trans uI
 have Ss:=R5.put RD NL.hd2 (An.baseNone NL.zd2)
 have s9:=Sm.put (o:={cls:=.type "dict",data:=.dict L.es.toArray L.n2}) (Au.dead NL.zd2) RD
 have pL:Go.Le (((Av.back Go).put L.st (.fro (instObj c.C L.d2))).put L.d2 (.fro {cls:=.type "dict",data:=.dict L.es.toArray L.n2})):=(le.trans (Gh.le_put Rx)).trans (Gh.le_put RD)
 have tO:(((Av.back Go).put L.st (.fro (instObj c.C L.d2))).put L.d2 (.fro {cls:=.type "dict",data:=.dict L.es.toArray L.n2})) L.st=some (.fro (instObj c.C L.d2)):=(Gh.put_ne Xj).trans (Gh.put_self ..)
 have pT:(((Av.back Go).put L.st (.fro (instObj c.C L.d2))).put L.d2 (.fro {cls:=.type "dict",data:=.dict L.es.toArray L.n2})) L.d2=some (.fro {cls:=.type "dict",data:=.dict L.es.toArray L.n2}):=Gh.put_self ..
 have k6:∀{b},Av.back Go b=none->b≠L.st->b≠L.d2->(((Av.back Go).put L.st (.fro (instObj c.C L.d2))).put L.d2 (.fro {cls:=.type "dict",data:=.dict L.es.toArray L.n2})) b=none:= λe h h'=>(Gh.put_ne h').trans ((Gh.put_ne h).trans e)
 have a6:=k6 ka NL.ne1 n9
 have d6:=k6 kd n6.symm NL.ne2
 have p6:=k6 kp n7.symm sQ.symm
 have g6:=k6 kg n8.symm vG.symm
 generalize (((Av.back Go).put L.st (.fro (instObj c.C L.d2))).put L.d2 (.fro {cls:=.type "dict",data:=.dict L.es.toArray L.n2}))=G₆ at*
 have O5:∀j b,G₆ b≠some (.own x j):= λj b e=>by
  have:=Ss.res b x j e
  rw[hx] at this;exact Ck this
 have sV:=(Ss.gr s x).more (j:=3) a6 (Au.dead NL.za) ⟨_,NL.ha⟩ (An.baseNone NL.za) hx (O5 3)
 have rR:=sV.more (a:=L.d) (j:=0) ((Gh.put_ne n1.symm).trans d6) (Au.dead NL.zd) ⟨_,NL.hd⟩ (An.baseNone NL.zd) hx (Kd (O5 0) (by decide))
 have rP:=rR.more (a:=L.p) (j:=1) ((Gh.put_ne n4.symm).trans ((Gh.put_ne n2.symm).trans p6)) (Au.dead NL.zp) ⟨_,NL.hp⟩ (An.baseNone NL.zp) hx (Kd (Kd (O5 1) (by decide)) (by decide))
 have OW:=rP.more (a:=L.g) (j:=2) ((Gh.put_ne NL.ne3.symm).trans ((Gh.put_ne n5.symm).trans ((Gh.put_ne n3.symm).trans g6))) (Au.dead NL.zg) ⟨_,hgl⟩ (An.baseNone NL.zg) hx (Kd (Kd (Kd (O5 2) (by decide)) (by decide)) (by decide))
 have up:∀b o,Go b=some (.fro o)->(((G₆.put L.a (.own x 3)).put L.d (.own x 0)).put L.p (.own x 1)).put L.g (.own x 2) b=some (.fro o):= λb o e=>OW.g1 _ _ (pL b o e)
 refine GG Ss s9 Ag.1 hb OW ⟨L,rfl,?_⟩ λs' N' I'=>k _ _ _ N' I' trivial
 exact⟨(Gh.put_ne n3).trans ((Gh.put_ne n2).trans ((Gh.put_ne n1).trans (Gh.put_self ..))),NL.ha,(Gh.put_ne n5).trans ((Gh.put_ne n4).trans (Gh.put_self ..)),NL.hd,⟨L.p,#[],rfl,(Gh.put_ne NL.ne3).trans (Gh.put_self ..),⟨_,NL.hp⟩,.nil⟩,⟨L.g,vs,rfl,Gh.put_self ..,⟨_,hgl⟩,B0.mono up⟩,
  OW.g1 _ _ tO,OW.g1 _ _ pT,NL.read,up _ _ NL.gf,NL.cls,NL.data,NL.glob,NL.blt,NL.code,up _ _ NL.gc,NL.cdata,NL.cname,NL.body,NL.text,NL.clos,up _ _ NL.gcc,NL.cell,NL.dflt⟩
end
structure Ft (c:Cx) (W:Addr->Prop) (G:Gh) (s:Shared) (G':Gh) (s':Shared):Prop where
 fu:Fu c W G s G' s'
 gens:∀(i:Nat) (x:GenState),s.gens[i]? =some x->s'.gens[i]? =some x
theorem Nx.ft(N:Nx c ρ G s ρ' G' s'):Ft c W G s G' s':=⟨N.fu,N.gens⟩
theorem Ft.refl:Ft c W G s G s:=⟨.refl,λ_ _ e=>e⟩
theorem Ft.trans(a:Ft c W G s G' s')(b:Ft c W G' s' CD s''):Ft c W G s CD s'':=⟨a.fu.trans b.fu,λi x e=>b.gens i x (a.gens i x e)⟩
section
variable (prog:Program) (w:World) (c:Cx)
noncomputable def ItT(A:Around)(F:Shared->Prop)(W:Addr->Prop)(I:Addr):List AV->Gh->Shared->Prop
 |[],G,s=>∀(ρ':R) (G':Gh) (s':Shared) (env:Env) (Q:Option Value->Shared->Prop) (E:Value->Shared->Prop),Ft c W G s G' s'->Inv c G' s' env ρ'->
  (∀s'',Tr c F ρ' G' s' ρ' G' s''->Inv c G' s'' env ρ'->Q none s'')->wpAny (model prog w) A (pyNext (.ref I)) Q E s'
 |x::xs,G,s=>∀(sc:Scope) (ts:List PySem.Expr) (k:Nat) (p:Pos) (ρ' Aw:R) (G':Gh) (s':Shared) (env:Env) (Q:Unit->Shared->Prop) (E:Value->Shared->Prop),env.scope=sc->Ft c W G s G' s'->Inv c G' s' env ρ'->BS sc (.Tuple ts k p) x ρ'=some Aw->
  (∀CD s'',Tr c F ρ' G' s' Aw CD s''->G'.Le CD->Inv c CD s'' env Aw->ItT A F W I xs CD s''->Q () s'')->
  wpAny (model prog w) A (pyNext (.ref I)) (λr Ad=>∃v,r=some v/\wpAny (model prog w) A (letOwnedTupleGo (.Tuple ts k p) (.ref I) v) (λ_ A4=>wpAny (model prog w) A (assign (.Tuple ts k p) env v) Q E A4) E Ad) E s'
end
section
variable {K:Frag}
theorem ItT.later{F:Shared->Prop}:∀{xs:List AV},ItT prog w c A F W I xs G s->Ft c W G s G' s'->ItT prog w c A F W I xs G' s':=by
 intro Al
 induction Al with
 |nil=>
  intro h N
  exact λB8 AY A4 env Q E A8 Ax k=>h B8 AY A4 env Q E (N.trans A8) Ax k
 |cons _ _ ih=>
  intro h N
  exact λsc ts k p B8 C2 AY A4 env Q E e A8 Ax f k'=>h sc ts k p B8 C2 AY A4 env Q E e (N.trans A8) Ax f k'
theorem T2(hr:Bd prog w c n r)(hA:OkA A n)(Ag:Cu c sc env){F:Shared->Prop}{f:Fl}(hF:F Ao)
 (k:∀G' s' f',Nx c AH AC Ao ρ' G' s'->Inv c G' s' env ρ'->MD G' f f'->R' (.ok f') s') {its:List AV} (h:BP (forTurn r sc (.Tuple ts tk tp) b) its ρ=some (f,ρ')) (H:ItT prog w c A F W a its G s) (I:Inv c G s env ρ) (N:Nx c AH AC Ao ρ G s):
 codeAny (model prog w) A (.forLoop (.Tuple ts tk tp) (.ref a) b [] env) R' s:=by
 refine codeAny_forLoop_any (λm s'=>∃its ρ G,m=its.length/\BP (forTurn r sc (.Tuple ts tk tp) b) its ρ=some (f,ρ')/\ItT prog w c A F W a its G s'/\Inv c G s' env ρ/\Nx c AH AC Ao ρ G s') ?_ _ ⟨its,ρ,G,rfl,h,H,I,N⟩
 rintro m s' ⟨its,ρ,G,rfl,h,H,I,N⟩
 cases its with
 |nil=>
  cases h
  exact H ρ' G s' env _ _ Ft.refl I λs'' tr J=>wpAny_execs_nil (k G s'' .next (tr _ _ _ hF N) J trivial)
 |cons x xs=>
  refine BQ h λfl B8 ht h2=>?_
  refine AL ht λAw ha hs=>?_
  refine wpAny_mono (H sc ts tk tp ρ Aw G s' env (λ_ AU=>wpAny (model prog w) A (execs b env) (λSa AU=>match Sa with
   |.next|.cont=>∃m,m<(x::xs).length/\∃its ρ G,m=its.length/\BP (forTurn r sc (.Tuple ts tk tp) b) its ρ=some (f,ρ')/\ItT prog w c A F W a its G AU/\Inv c G AU env ρ/\Nx c AH AC Ao ρ G AU
   |.brk=>R' (.ok .next) AU
   |.ret v=>R' (.ok (.ret v)) AU) (notedBy (model prog w) A env λe s'=>R' (.error e) s') AU) _ Ag.1 Ft.refl I ha λAv Ad tr _ An H₁=>?_) (λr Ad Cd=>?_) λ_ _ e=>e
  ·refine hr.ss _ _ _ _ _ hs A env Av Ad _ _ hA Ag An λAY A4 f' A8 Ax FL=>?_
   have AM:=(tr _ _ _ hF N).trans A8
   cases fl with
   |ret u=>
    (revert h2;refine AO λc1 c2=>?_;subst c1;subst c2)
    cases f' with
    |ret u'=>exact k _ _ _ AM Ax FL
    |_=>exact FL.elim
   |next=>
    cases f' with
    |next=>exact⟨xs.length,by simp,xs,B8,AY,rfl,h2,H₁.later A8.ft,Ax,AM⟩
    |_=>exact FL.elim
   |cont=>
    cases f' with
    |cont=>exact⟨xs.length,by simp,xs,B8,AY,rfl,h2,H₁.later A8.ft,Ax,AM⟩
    |_=>exact FL.elim
  ·revert Cd;refine Cw λv Bc Cd=>?_;obtain rfl:=Bc
   exact Cd
end
section
variable {K:Frag}
theorem TL(hA:A.handled=none)(Ag:env.scope=sc){p:Pos}{Ba:Array Value}{T:Addr}(h:BS sc (.Tuple ts k p) (.tup ys) ρ=some ρ')(I:Inv c G s env ρ)(N:Nx c AH AC Ao ρ G s)(hT:s.heap.IsTuple T Ba)(V:VRs G ys Ba.toList){Q:Unit->Shared->Prop}
 (kk:∀s',Nx c AH AC Ao ρ' G s'->Inv c G s' env ρ'->Q () s'):wpAny (model prog w) A (assign (.Tuple ts k p) env (.ref T)) Q E s:=by
 have h2:L8 sc ts ys ρ=some ρ':=h
 obtain⟨z1,z2⟩:=Ua (env:=env) h2
 refine wpAny_assign_Tuple hA hT (z1.trans (V.length.trans (Array.length_toList ..))) z2 λh' hx=>?_
 obtain⟨A8,Ax⟩:=Tu I hx
 exact WP Ag h2 Ax (N.trans A8) V kk
theorem ItT.walks{wr:List Addr}{m:Nat}{St:Nat->Heap->Prop}(hA:A.handled=none)(WK:∀A:Around,A.handled=none->WalksT prog w A I fp wr m Pt St J8)(hb:∀b∈wr,c.base.get? b=none)(Es:∀i h,St i h->∀b∈wr,∃o,h.get? b=some o):
 ∀(xs:List AV) (i:Nat) (G:Gh) (s:Shared),xs.length+i=m->St i s.heap->(∀b∈wr,G b=none/\∃o,s.heap.get? b=some o)->(∀b∈fp,b∈wr∨∃o,G b=some (.fro o)/\s.heap.get? b=some o)->
  (∀(j:Nat) (x:AV) (Ba:Array Value),xs[j]? =some x->Pt (i+j) Ba->∃ys,x=.tup ys/\VRs G ys Ba.toList)->ItT prog w c A (λAo=>∀b∈wr,Ao.heap.get? b=none) (· ∈wr) I xs G s:=by
 have frame:∀{i G s G' s' ρ' env},St i s.heap->(∀b∈wr,G b=none/\∃o,s.heap.get? b=some o)->(∀b∈fp,b∈wr∨∃o,G b=some (.fro o)/\s.heap.get? b=some o)->Ft c (· ∈wr) G s G' s'->Inv c G' s' env ρ'->St i s'.heap/\(∀b∈wr,G' b=none/\∃o,s'.heap.get? b=some o)/\(∀b∈fp,b∈wr∨∃o,G' b=some (.fro o)/\s'.heap.get? b=some o):= λ{i G s G' s' ρ' env} hst g E7 N I'=>by
  have nt:∀b∈wr,¬c.isTab b:= λb m ⟨t,m',q⟩=>by
   have:=(I'.stat.tab t m').2
   rw[q,hb b m] at this;exact Az this
  refine⟨(WK ⟨none,0,none,none,0⟩ rfl).frame i _ _ hst λb m o e=>?_,λb m=>?_,λb m=>(E7 b m).imp id λ⟨o,g',_⟩=>⟨o,N.fu.le _ _ g',I'.fro _ _ (N.fu.le _ _ g')⟩⟩
  ·rcases E7 b m with m|⟨o',g',e'⟩
   ·exact(N.fu.keep b o m e (g b m).1 (nt b m)).1
   ·rw[e] at e';(revert e';refine As λc0=>?_;subst c0);exact I'.fro _ _ (N.fu.le _ _ g')
  ·refine Po (g b m) λg1 o e=>?_
   obtain⟨e2,g2⟩:=N.fu.keep b o m e g1 (nt b m)
   exact⟨g2,o,e2⟩
 intro xs
 induction xs with
 |nil=>
  intro i G s hl hst g E7 _ ρ' G' s' env Q E N I' k
  refine DG (frame hst g E7 N I') λH9 g' _=>?_
  obtain rfl:i=m:=by simpa using hl
  refine wpAny_with_toks I'.stat.tok ((WK A hA).done s' _ _ H9 λh' tk hk ht=>k {s' with heap:=h',toks:=tk} (λAH AC Ao JG Gu=>?_) ?_)
  ·exact Gu.loose (W:=wr) JG hk (λ_ _ e _=>e) rfl
  ·exact I'.loose (W:=wr) (λa m=>⟨(g' a m).1,hb a m⟩) hk I'.stat.bare ht
 |cons x xs ih=>
  intro i G s hl hst g E7 hV sc ts kk p ρ' Aw G' s' env Q E Ag N I' ha k
  refine DG (frame hst g E7 N I') λH9 g' OB=>?_
  refine wpAny_with_toks I'.stat.tok ((WK A hA).item i s' _ _ (by rw[List.length_cons] at hl;exact Ap 0x16c211114b2141141201 Aa hl) H9 λT Ba h' tk hP R1 hT hM hk ht=>⟨_,rfl,(WK A hA).go _ _ _ _ _ _ _ _ hM λFX Jy IB=>?_⟩)
  have Dt:∀b o,b∉wr->s'.heap.get? b=some o->FX.get? b=some o:= λb o m e=>IB b o m (hk b o m e)
  have Ax:Inv c G' {s' with heap:=FX,toks:=tk} env ρ':=I'.loose (W:=wr) (λa m=>⟨(g' a m).1,hb a m⟩) Dt I'.stat.bare ht
  have R4:FX.IsTuple T Ba:=by
   revert hT;refine Cw λo e q=>?_
   exact⟨o,IB T o ((WK A hA).apart _ _ _ hM) e,q⟩
  refine Ak (hV 0 x Ba rfl hP) λys Bc V=>?_;obtain rfl:=Bc
  refine TL (s:={s' with heap:=FX,toks:=tk}) hA Ag ha Ax (.refl ..) R4 (V.mono N.fu.le) λAU AM Bf=>k G' AU (λAH AC Ao JG Gu=>?_) (.refl _) Bf ?_
  ·exact Nx.trans (Gu.loose (s'':={s' with heap:=FX,toks:=tk}) (W:=wr) JG Dt (λ_ _ e _=>e) rfl) AM
  ·have tA:∀b∈wr,G' b=none/\∃o,FX.get? b=some o:= λb m=>⟨(g' b m).1,Es _ _ Jy b m⟩
   have OO:∀b∈fp,b∈wr∨∃o,G' b=some (.fro o)/\FX.get? b=some o:= λb m=>(OB b m).imp id λ⟨o,g,_⟩=>⟨o,g,Ax.fro _ _ g⟩
   refine DG (frame (s:={s' with heap:=FX,toks:=tk}) Jy tA OO AM.ft Bf) λSj JJ pN=>?_
   exact ih (i+1) G' AU (by rw[List.length_cons] at hl;exact Nat.le_antisymm (Ap 0x14c214412110114b2141141201 Aa hl) (Ap 0x14c441211012115b2141141201 Aa hl)) Sj JJ pN λj y u hj hu=>(hV (j+1) y u hj (by rw[<-Nat.add_assoc,Nat.add_right_comm];exact hu)).imp λys q=>⟨q.1,q.2.mono N.fu.le⟩
theorem i9{a:PySem.Expr}(h:JQ sc e=some (x,a)):∃pf cp,e=.Call (.Name x pf) [a] [] cp/\BV sc x=true/\(x="enumerate"∨x="_iter_escaped_chars")/\BI a=true:=by
 refine Ak (CP h) λBB hc h=>?_;obtain⟨f,args,AT,p⟩:=BB
 revert h;refine Ai λx' hx h=>?_
 revert h;refine Ai λa' ha h=>?_
 revert h;refine Ai λ_ hg h=>?_
 cases h
 obtain⟨hg,g4⟩:=Bool.and_eq_true_iff.mp (AI hg)
 obtain⟨hg,g3⟩:=Bool.and_eq_true_iff.mp hg
 obtain⟨g1,g2⟩:=Bool.and_eq_true_iff.mp hg
 obtain⟨q,rfl⟩:=EB hx
 have he:e=.Call (.Name x q) args AT p:=by
  exact(FD hc:)
 obtain rfl:=E2 ha
 obtain rfl:AT=[]:=List.isEmpty_iff.mp g3
 refine⟨q,p,he,g1,?_,g4⟩
 simpa using g2
theorem SX.enum(T:Bx c top)(hr:Bd prog w c n r){a:PySem.Expr}{f:Fl}(hg:BV sc "enumerate"=true)(ha:BI a=true)(hi:JZ r sc "enumerate" a ρ=some (its,Aw))(hl:BP (forTurn r sc (.Tuple ts tk tp) b) its Aw=some (f,ρ')):
 SX prog w c n sc (.For (.Tuple ts tk tp) (.Call (.Name "enumerate" pf) [a] [] cp) b [] pos) ρ f ρ':=by
 refine BQ hi λv B8 hv h2=>?_
 intro A env G s Q E hA Ag I k
 dsimp only at h2
 rw[if_pos rfl] at h2
 refine AL h2 λxs Cn h3=>?_
 refine AL h3 λ_ DK h4=>?_
 (revert h4;refine AO λc1 c2=>?_;subst c1;subst c2)
 refine wpAny_For ?_ λx=>IK rfl
 refine wpAny_Call_ofName (Iw T I Ag hg rfl T.enumerate ?_)
 have e1:starEach [a] env=[(false,eval a env)]:=by rw[D7 ha];rfl
 refine PyProof.Rows.callWith_type (by rw[e1];rfl) (IE (by rw[e1];rfl) ?_)
 rw[e1]
 refine spliced_cons ((hr.e _ _ _ _ _ hv).then hA Ag I (.refl ..) λAv Ad v' Au An B5 Bj=>spliced_nil ?_)
 refine EW (VR.isList Cn Bj) λl vs m B2 gl W=>?_;obtain rfl:=B2
 refine call_enumerate_list (An.lst gl) λh' he F0 hz hk=>wpAny_pyIter_enum he ?_
 have dl:l<Ad.heap.objs.size:=Heap.lt_size (An.fro _ _ gl)
 have d0:Ad.heap.get? Ad.heap.objs.size=none:=Heap.get?_none_of_le (Nat.le_refl _)
 have d1:Ad.heap.get? (Ad.heap.objs.size+1)=none:=Heap.get?_none_of_le (Nat.le_succ _)
 obtain⟨A8,Ax⟩:=Hj (tk:=Ad.toks) An An.stat.tok hk
 have wr:∀b∈[Ad.heap.objs.size+1,Ad.heap.objs.size],Ad.heap.get? b=none:= λb m=>by
  rcases List.mem_cons.mp m with rfl|m
  ·exact d1
  ·rw[List.mem_singleton.mp m];exact d0
 have it:ItT prog w c A (λAo=>∀b∈[Ad.heap.objs.size+1,Ad.heap.objs.size],Ao.heap.get? b=none) (· ∈[Ad.heap.objs.size+1,Ad.heap.objs.size]) (Ad.heap.objs.size+1) (xs.zipIdx.map λp=>AV.tup [.int p.2,p.1]) Av {Ad with heap:=h'}:=by
  refine ItT.walks hA.1 (λA hA=>WalksT.enumerate hA _ _ l (Nat.succ_ne_self _) (Nat.ne_of_lt (Nat.lt_succ_of_lt dl)) (Nat.ne_of_lt dl) vs) (λb m=>An.baseNone (wr b m)) ?_ _ 0 Av _ ?_ ⟨⟨_,he⟩,F0,(An.lst gl).at λo e=>hk _ o e⟩ ?_ ?_ ?_
  ·rintro i h ⟨⟨old,e⟩,⟨o,e2,_⟩,_⟩ b m
   rcases List.mem_cons.mp m with rfl|m
   ·exact⟨_,e⟩
   ·rw[List.mem_singleton.mp m];exact⟨o,e2⟩
  ·have:=W.length
   simp[List.length_map,this]
  ·intro b m
   refine⟨An.fresh (wr b m),?_⟩
   rcases List.mem_cons.mp m with rfl|m
   ·exact⟨_,he⟩
   ·rw[List.mem_singleton.mp m]
    revert F0;refine Cw λo e2 _=>?_
    exact⟨o,e2⟩
  ·intro b m
   rcases List.mem_cons.mp m with rfl|m
   ·exact .inl List.mem_cons_self
   ·rcases List.mem_cons.mp m with rfl|m
    ·exact .inl (List.mem_cons_of_mem _ List.mem_cons_self)
    ·rw[List.mem_singleton.mp m]
     exact .inr ⟨_,gl,hk _ _ (An.fro _ _ gl)⟩
  ·rintro j x Ba hj ⟨t,y,hy,rfl⟩
   rw[List.getElem?_map,List.getElem?_zipIdx] at hj
   refine Ak (Fg hj) λp hp Ar=>?_;obtain rfl:=Ar
   refine Ak (Fg hp) λx hx Ar=>?_;obtain rfl:=Ar
   rw[Nat.zero_add] at hy
   refine Ak (W.get hx) λu e V=>?_
   rw[Array.getElem?_toList,hy] at e
   (revert e;refine As λc0=>?_;subst c0)
   refine⟨_,rfl,.cons ?_ (.cons V .nil)⟩
   exact .int
 exact T2 (R':= λr s'=>match r with|.ok f=>Q f s'|.error e=>cameBackBy (model prog w) A env E e s') hr hA Ag (λb m=>Au.dead (wr b m)) (λG' s' f' N' I' W=>k G' s' f' N' I' W) hl it Ax (Au.trans A8)
end
section
variable {R:GenEnd} {c:Code}
 {H:Value->Sem PySem.Fin} {gd:Bool->Bool} {lv:List Value->List Value}
theorem Gm{m:Sem α}{f:α->Sem β}{K:β->Sem PySem.Fin}(h:wpAny M (A.over c fs) m (λa s'=>Seg M A R Y n Ao c ((f a).wrap K H gd lv) fs s') (λx s'=>Seg M A R Y n Ao c (H x) fs s') s):
 Seg M A R Y n Ao c ((m>>= f).wrap K H gd lv) fs s:=by
 rw[Sem.bind_eq_wrap',Sem.wrap_wrap];exact seg_wrap h
theorem P9{o:List Stmt}{K:Flow->Sem PySem.Fin}(h:wpAny M (A.over c fs) (isTrue t env (eval t env)) (λx s'=>Seg M A R Y n Ao c ((if x=true then execs b env else execs o env).wrap K H gd lv) fs s') (λx s'=>Seg M A R Y n Ao c (H x) fs s') s):
 Seg M A R Y n Ao c ((exec (.If t b o pos) env).wrap K H gd lv) fs s:=by
 rw[exec_If]
 exact Gm (wpAny_standAt (Gm h))
theorem Zu{iter:PySem.Expr}{body:List Stmt}{K:Flow->Sem PySem.Fin}(hs:∀x,foldedSetIterable iter env x=pure x)
 (h:wpAny M (A.over c fs) (eval iter env) (λx Ad=>wpAny M (A.over c fs) (pyIter x) (λit A4=>∀p,Seg M A R Y n Ao (.forLoop target it body [] env) (M.den (.forLoop target it body [] env))
  (.ret (λr=>((match r with|.ok f=>(.pure f:Sem Flow)|.error e=>.raise e).onRaise λ(x:Value)=>do
   if(<-field x 1)==Value.none then unsupported "frame.own-activation:exception-without-traceback"
   setFlight x env.frame).wrap K H gd lv) none (gd false) (lv []) c p []::fs) A4) (λx s'=>Seg M A R Y n Ao c (H x) fs s') Ad) (λx s'=>Seg M A R Y n Ao c (H x) fs s') s):
 Seg M A R Y n Ao c ((exec (.For target iter body [] pos) env).wrap K H gd lv) fs s:=by
 rw[exec_For]
 refine Gm (wpAny_standAt (Gm (wpAny_mono h (λx Ad Cd=>?_) λ_ _ e=>e)))
 rw[hs]
 refine Gm (wpAny_pure (Gm (wpAny_standAt (Gm (wpAny_holding (wpAny_mono Cd (λit A4 ES=>?_) λ_ _ e=>e))))))
 exact seg_call ES
end
section
variable {R:GenEnd}
noncomputable def Wy(target:PySem.Expr)(it:Value)(body:List Stmt)(env:Env):Flow->Sem PySem.Fin:= λf=>match f with
 |.next|.cont=>.pure (.again (.forLoop target it body [] env))
 |.brk=>.pure (.done .next)
 |.ret v=>.pure (.done (.ret v))
noncomputable def Oj(env:Env):Value->Sem PySem.Fin:= λe=>(do noteFrame e env;theTreesLotGoes e:Sem Unit).wrap (λ_=>.raise e) .raise id id
theorem Tv{it:Value}{body:List Stmt}{k h g l KQ JE kp:_}
 (hh:wpAny (model prog w) (A.over (.forLoop target it body [] env) (.ret k h g l KQ JE kp::fs)) (pyNext it) (λr s'=>match r with
  |none=>Seg (model prog w) A R Y n Ao KQ (k (.ok .next)) fs s'
  |some v=>wpAny (model prog w) (A.over (.forLoop target it body [] env) (.ret k h g l KQ JE kp::fs)) (letOwnedTupleGo target it v) (λ_ Ad=>wpAny (model prog w) (A.over (.forLoop target it body [] env) (.ret k h g l KQ JE kp::fs)) (assign target env v) (λ_ A4=>
   Seg (model prog w) A R Y n Ao (.forLoop target it body [] env) ((execs body env).wrap (Wy target it body env) (Oj env) id id) (.ret k h g l KQ JE kp::fs) A4) (λ_ _=>False) Ad) (λ_ _=>False) s') (λ_ _=>False) s):
 Seg (model prog w) A R Y n Ao (.forLoop target it body [] env) ((model prog w).den (.forLoop target it body [] env)) (.ret k h g l KQ JE kp::fs) s:=by
 show Seg _ A R Y n Ao _ ((PySem.forTurn target it body [] env).onRaise (λx=>do noteFrame x env;theTreesLotGoes x)) _ s
 rw[Sem.onRaise_eq_wrap]
 unfold PySem.forTurn
 refine Gm (wpAny_standAt (Gm (wpAny_onRaise (wpAny_mono hh (λr s' h'=>?_) λ_ _ e=>e.elim))))
 cases r with
 |none=>
  refine seg_again (c':=.block [] env) rfl ?_
  show Seg _ A R Y n Ao _ (leafOf (.ok .next)) _ s'
  exact seg_leaf _ h'
 |some v=>
  refine Gm (wpAny_mono h' (λ_ Ad Cd=>Gm (wpAny_mono Cd (λ_ A4 ES=>?_) λ_ _ e=>e.elim)) λ_ _ e=>e.elim)
  rw[Sem.bind_eq_wrap',Sem.wrap_wrap]
  rw[Sem.wrap_congr (execs body env) (K':=Wy target it body env) (H':=Oj env) _ _ (λf=>by cases f<;>rfl) (λe=>by exact Sem.bind_eq_wrap _ _)]
  exact ES
end
noncomputable def KB(L:List Addr)(Ao s:Shared):Prop:=∃h tk,s={Ao with heap:=h,toks:=tk}/\0<tk/\∀a o,a∉L->Ao.heap.get? a=some o->h.get? a=some o
theorem KB.refl{L:List Addr}(h:0<s.toks):KB L s s:=⟨s.heap,s.toks,rfl,h,λ_ _ _ e=>e⟩
theorem KB.then{L:List Addr}(x:KB L Ao s)(ht:0<tk)(k:∀a o,a∉L->s.heap.get? a=some o->h.get? a=some o):KB L Ao {s with heap:=h,toks:=tk}:=by
 revert x;refine Ma λCd t₁ Ar _ OZ=>?_;obtain rfl:=Ar
 exact⟨h,tk,rfl,ht,λa o m e=>k a o m (OZ a o m e)⟩
theorem KB.tok{L:List Addr}(x:KB L Ao s):0<s.toks:=by revert x;refine Ma λh t Ar p _=>?_;obtain rfl:=Ar;exact p
noncomputable def GY(L:List Addr)(its:List AV):Protocol:= λn Ao v Ad OV=>
 (∃xs p st T t1 t2,its.drop (its.length - (n+1))=AV.tup [.int p,.str st]::xs/\v=.ref T/\T∉L/\Ad.heap.IsTuple T #[.int p t1,.str st t2])/\KB L Ao Ad/\(∀b∈L,∃o,Ad.heap.get? b=some o)/\
  ∀s'',0<s''.toks->(∀b∈L,∀o,Ad.heap.get? b=some o->s''.heap.get? b=some o)->OV (.send .none) s''
noncomputable def GR(L:List Addr):GenEnd:= λn Ao r Ad=>r=.ok (.ret .none)/\(n=0/\KB L Ao Ad)
section
variable {R:GenEnd} {c:Code} {lv:List Value->List Value} {L:List Addr}
theorem Pr{yp:Pos}{K:Flow->Sem PySem.Fin}{p:Int}{st:Str}(tL:splitAtGen fs=none)(Sf:gd false=false)(uS:fs.any Frame.guarded=false)(tQ:env.scope.isCoroutine=false)(hi:interactive env=false)
 (qC:∀(A:Around) (Q:Value->Shared->Prop) (E:Value->Shared->Prop),(∀h' tk T t1 t2,0<tk->(∀a o,s.heap.get? a=some o->h'.get? a=some o)->s.heap.get? T=none->h'.IsTuple T #[.int p t1,.str st t2]->Q (.ref T) {s with heap:=h',toks:=tk})->wpAny (model prog w) A (eval e env) Q E s)
 (hx:its.drop (its.length - (n+1))=AV.tup [.int p,.str st]::xs) (E6:KB L Ao s) (Es:∀b∈L,∃o,s.heap.get? b=some o)
 (next:∀s'',0<s''.toks->(∀b∈L,∀o,s.heap.get? b=some o->s''.heap.get? b=some o)->Seg (model prog w) A R (GY L its) n s'' c (K .next) fs s''):
 Seg (model prog w) A R (GY L its) (n+1) Ao c ((exec (.Expr (.Yield (some e) yp) pos) env).wrap K H gd lv) fs s:=by
 refine seg_Expr_Yield tL Sf uS (qC _ _ _ λh' tk T t1 t2 C1 hk hd hT OV pY=>⟨⟨xs,p,st,T,t1,t2,hx,rfl,λm=>?_,hT⟩,E6.then C1 λa o _ e=>hk a o e,λb m=>?_,λs'' h0 hs=>pY .none s'' (next s'' h0 λb m o e=>hs b m o (hk b o e))⟩) tQ hi
 ·obtain⟨o,e⟩:=Es T m
  rw[hd] at e;exact Az e
 ·obtain⟨o,e⟩:=Es b m
  exact⟨o,hk b o e⟩
end
structure GEnv (env:Env):Prop where
 kind:env.scope.kind=.function
 kpos:env.kindOf "pos"=some .local
 kesc:env.kindOf "escape"=some .local
 kch:env.kindOf "ch"=some .local
 kaddr:env.kindOf "addr"=some .local
 co:env.scope.isCoroutine=false
theorem PG{a b:PySem.Expr}{p:Int}{st:Str}{t1:Tok}(ha:BI a=true)(hb:BI b=true)(ht:0<s.toks)
 (uX:∀(Q:Value->Shared->Prop),Q (.int p t1) s->wpAny (model prog w) A (eval a env) Q E s)
 (qE:∀(Q:Value->Shared->Prop),(∀tk t2,0<tk->Q (.str st t2) {s with toks:=tk})->wpAny (model prog w) A (eval b env) Q E s)
 (kk:∀h' tk T t1 t2,0<tk->(∀a o,s.heap.get? a=some o->h'.get? a=some o)->s.heap.get? T=none->h'.IsTuple T #[.int p t1,.str st t2]->Q (.ref T) {s with heap:=h',toks:=tk}):
 wpAny (model prog w) A (eval (.Tuple [a,b] k pos) env) Q E s:=by
 refine wpAny_Tuple_spliced ?_
 rw[D7 ha,D7 hb]
 refine spliced_cons (uX _ (spliced_cons (qE _ λtk t2 C1=>spliced_nil ⟨by show 2<=_;rw[sizeLine_eq];exact AE 0x14c10000007322 Aa,?_⟩)))
 exact kk _ tk _ t1 t2 C1 (λa o e=>Heap.get?_push_of_some _ e) (Heap.get?_none_of_le (Nat.le_refl _)) ⟨_,Heap.get?_push_size _ rfl,rfl,_,rfl⟩
theorem Ig(g:GEnv env){p:Pos}{v:Value}(hk:env.kindOf x=some .local)(hx:DI x=false)(hn:s.heap.Ns env.locals m)(hm:m x=some v)(h:Q v s):wpAny (model prog w) A (eval (.Name x p) env) Q E s:=
 wpAny_Name (wpAny_loadName_local g.kind hk hn hm h) (Me hx).1
theorem oH(g:GEnv env){l:Nat}{p3 p4:Pos}{c:Nat}{t u:Tok}(ht:0<s.toks)(hn:s.heap.Ns env.locals m)(h1:m "pos"=some (.int i t))(h2:m "ch"=some (.str ⟨#[c]⟩ u))
 (kk:∀h' tk T t1 t2,0<tk->(∀a o,s.heap.get? a=some o->h'.get? a=some o)->s.heap.get? T=none->h'.IsTuple T #[.int i t1,.str ⟨#[92,c]⟩ t2]->Q (.ref T) {s with heap:=h',toks:=tk}):
 wpAny (model prog w) A (eval (.Tuple [.Name "pos" p1,.BinOp (.Constant (.str "\\") l p2) .Add (.Name "ch" p3) p4] k p5) env) Q E s:=by
 refine PG rfl rfl ht (λQ h=>Ig g g.kpos rfl hn h1 h) (λQ h=>?_) kk
 refine wpAny_BinOp (wpAny_Constant_str ?_)
 refine Ig g g.kch rfl hn h2 ?_
 exact wpAny_with_toks (Nat.succ_pos _) (add_str (λt' tk C1=>h tk t' C1) (by show 1+1<=_;rw[sizeLine_eq];exact AE 0x14c10000007341212 Aa))
theorem ZK(g:GEnv env){st:Str}{t u:Tok}(ht:0<s.toks)(hn:s.heap.Ns env.locals m)(h1:m "pos"=some (.int i t))(h2:m "ch"=some (.str st u))
 (kk:∀h' tk T t1 t2,0<tk->(∀a o,s.heap.get? a=some o->h'.get? a=some o)->s.heap.get? T=none->h'.IsTuple T #[.int i t1,.str st t2]->Q (.ref T) {s with heap:=h',toks:=tk}):
 wpAny (model prog w) A (eval (.Tuple [.Name "pos" p1,.Name "ch" p2] k p5) env) Q E s:=
 PG rfl rfl ht (λQ h=>Ig g g.kpos rfl hn h1 h) (λQ h=>Ig g g.kch rfl hn h2 (h _ _ ht)) kk
theorem iW(g:GEnv env){l:Nat}{t:Tok}(ht:0<s.toks)(hn:s.heap.Ns env.locals m)(h1:m "pos"=some (.int i t))
 (kk:∀h' tk T t1 t2,0<tk->(∀a o,s.heap.get? a=some o->h'.get? a=some o)->s.heap.get? T=none->h'.IsTuple T #[.int i t1,.str ⟨#[92]⟩ t2]->Q (.ref T) {s with heap:=h',toks:=tk}):
 wpAny (model prog w) A (eval (.Tuple [.Name "pos" p1,.Constant (.str "\\") l p2] k p5) env) Q E s:=
 PG rfl rfl ht (λQ h=>Ig g g.kpos rfl hn h1 h) (λQ h=>wpAny_Constant_str (h _ _ (Nat.succ_pos _))) kk
theorem bX(g:GEnv env){p:Pos}{v:Value}{Q:Flow->Shared->Prop}(hk:env.kindOf x=some .local)(hn:s.heap.Ns env.locals m)(hs:swapsWith e (some (.Name x p)) pos.line env=pure false)(hv:∀Q:Value->Shared->Prop,(∀tk,Q v {s with toks:=tk})->wpAny (model prog w) A (eval e env) Q E s)
 (k:∀h' tk,0<tk->h'.Ns env.locals (λy=>if y=x then some v else m y)->(∀a o,a≠env.locals->s.heap.get? a=some o->h'.get? a=some o)->Q .next {s with heap:=h',toks:=tk}):
 wpAny (model prog w) A (exec (.Assign [.Name x p] e pos) env) Q E s:=by
 refine wpAny_Assign_Name (hv _ λtk=>?_) hs
 exact wpAny_storeName_local hk hn (λh' CZ ET=>k h' _ (Nat.succ_pos _) CZ λa o na e=>(ET.2 a na).trans e) (by rw[g.kind];rfl)
structure G7 where
 q:Nat->Pos
 l:Nat->Nat
noncomputable def F9(g:G7):List Stmt:=
 [.If (.Name "escape" (g.q 0)) [.Expr (.Yield (some (.Tuple [.Name "pos" (g.q 1),.BinOp (.Constant (.str "\\") (g.l 0) (g.q 2)) .Add (.Name "ch" (g.q 3)) (g.q 4)] (g.l 5) (g.q 5))) (g.q 6)) (g.q 7),.Assign [.Name "escape" (g.q 8)] (.Constant (.bool false) (g.l 1) (g.q 9)) (g.q 10)]
  [.If (.Compare (.Name "ch" (g.q 11)) [.Eq] [.Constant (.str "\\") (g.l 2) (g.q 12)] (g.q 13)) [.Assign [.Name "escape" (g.q 14)] (.Constant (.bool true) (g.l 3) (g.q 15)) (g.q 16)] [.Expr (.Yield (some (.Tuple [.Name "pos" (g.q 17),.Name "ch" (g.q 18)] (g.l 6) (g.q 19))) (g.q 20)) (g.q 21)] (g.q 22)] (g.q 23)]
noncomputable def H1(g:G7):List Stmt:=[.If (.Name "escape" (g.q 24)) [.Expr (.Yield (some (.Tuple [.Name "pos" (g.q 25),.Constant (.str "\\") (g.l 4) (g.q 26)] (g.l 7) (g.q 27))) (g.q 28)) (g.q 29)] [] (g.q 30)]
noncomputable def G4(g:G7):PySem.Expr:=.Tuple [.Name "pos" (g.q 31),.Name "ch" (g.q 32)] (g.l 8) (g.q 33)
noncomputable def NF:Flow->Sem PySem.Fin:= λf=>.pure (.done (.ret (match f with|.ret v=>v|_=>.none)))
noncomputable def Nw(env:Env):Value->Sem PySem.Fin:= λe=>(leaving env e).wrap (λ_=>.raise e) .raise id id
noncomputable def gL(g:G7)(env:Env):Flow->Sem PySem.Fin:= λf=>match f with|.next=>(execs (H1 g) env).wrap NF (Nw env) id id|f=>NF f
noncomputable def FrG(env:Env)(h:Heap)(b:Bool)(i:Nat):Prop:=∃m,h.Ns env.locals m/\m "escape"=some (.bool b)/\(b=true->∃t,m "pos"=some (.int ((i:Int) - 1) t))
theorem FrG.at'{b:Bool}{i:Nat}(x:FrG env h b i)(k:∀o,h.get? env.locals=some o->h'.get? env.locals=some o):FrG env h' b i:=x.imp λm q=>⟨q.1.at' k,q.2⟩
section
variable {L:List Addr} {g:G7} {c:Code}
theorem S0(ge:GEnv env){p:Pos}{b:Bool}{Q:Bool->Shared->Prop}(hn:s.heap.Ns env.locals m)(hb:m "escape"=some (.bool b))(h:Q b s):wpAny (model prog w) A (isTrue (.Name "escape" p) env (eval (.Name "escape" p) env)) Q E s:=
 wpAny_isTrue_value (Ig ge ge.kesc rfl hn hb (wpAny_truthy_bool h)) rfl
theorem PA(ge:GEnv env):interactive env=false:=by unfold interactive;rw[ge.kind];rfl
theorem fD(ge:GEnv env)(hC:env.locals∈L){b:Bool}{i:Nat}(F:FrG env s.heap b i)(E6:KB L Ao s)(Es:∀b∈L,∃o,s.heap.get? b=some o)(hn:n=(Cv i b []).length)(hx:its.drop (its.length - n)=Cv i b []):
 Seg (model prog w) A (GR L) (GY L its) n Ao c ((execs (H1 g) env).wrap NF (Nw env) id id) [] s:=by
 revert F;refine Rm λm CE My ON=>?_
 unfold H1
 refine seg_execs_cons (P9 (S0 ge CE My ?_))
 cases b with
 |false=>
  rw[if_neg Bool.false_ne_true]
  subst hn
  exact seg_end (.ok (.ret .none)) ⟨rfl,rfl,E6⟩
 |true=>
  rw[if_pos rfl]
  obtain⟨t,hp⟩:=ON rfl
  subst hn
  refine seg_execs_cons (Pr (xs:=[]) rfl rfl rfl ge.co (PA ge) (λA Q E k=>iW ge E6.tok CE hp k) hx E6 Es λs'' h0 hs=>?_)
  exact seg_end (.ok (.ret .none)) ⟨rfl,rfl,.refl h0⟩
end
theorem SF{vs:Array Value}{v:Value}{Q:Unit->Shared->Prop}(ho:s.heap.get? a=some o)(hd:o.data=.fields vs)(hk:k<vs.size)
 (h:∀h' o',h'.get? a=some o'->Heap.SameBut a s.heap h'->Q () {s with heap:=h'}):wpAny (model prog w) A (setField (.ref a) k v) Q E s:=
 wpAny_setField ho hd hk (h _ _ (Heap.get?_update_self _ ho (Obj.isFreed_of_fields (Obj.data_mapFields hd _))) (Heap.SameBut.update ..))
theorem dQ{t:Tok}{i:Nat}(hh:A.handled=none)(F0:s.heap.IsStrIter it "str_ascii_iterator" x t i)(hx:x.cps[i]? =none)
 (hE:∀h' e,(∀b o,b≠it->s.heap.get? b=some o->h'.get? b=some o)->(∃o,h'.get? it=some o)->(∃o,h'.get? e=some o/\o.cls=.type "StopIteration")->E (.ref e) {s with heap:=h'}):
 wpAny (model prog w) A (Builtin.SmallTypes.nextOf (.ref it)) Q E s:=by
 refine Cf (id F0) λo ho hc hd=>?_
 unfold Builtin.SmallTypes.nextOf
 refine wpAny_bind (wpAny_callSpecial?_slot (name:=Str.ofString "__next__") F0.typeIs F.slot_str_ascii_iterator_next (wpAny_call_entry F.slot_str_ascii_iterator_next F0.typeIs F.entry_str_ascii_iterator_next ?_ (F.args_str_ascii_iterator_next_1 _)))
 show wpAny _ _ (field (.ref it) 0>>= _) _ _ s
 refine wpAny_bind (wpAny_field ho hd (x:=.str x t) rfl ?_)
 show wpAny _ _ (field (.ref it) 1>>= _) _ _ s
 refine wpAny_bind (wpAny_field ho hd (x:=.int i 0) rfl ?_)
 simp only[Int.toNat_natCast,hx]
 refine wpAny_bind (wpAny_rule (wpAny_bind (SF ho hd (by simp) λCd OE HE Ad=>wpAny_bind (wpAny_letGo (Mi hh λe h' hk he=>?_)))))
 exact hE h' e (λb o nb q=>hk b o ((Ad.2 b nb).trans q)) ⟨OE,hk _ _ HE⟩ he
theorem cP{t:Tok}{i:Nat}(hh:A.handled=none)(F0:s.heap.IsStrIter it "str_iterator" x t i)(hx:x.cps[i]? =none)
 (hE:∀h' e,(∀b o,b≠it->s.heap.get? b=some o->h'.get? b=some o)->(∃o,h'.get? it=some o)->(∃o,h'.get? e=some o/\o.cls=.type "StopIteration")->E (.ref e) {s with heap:=h'}):
 wpAny (model prog w) A (Builtin.SmallTypes.nextOf (.ref it)) Q E s:=by
 refine Cf (id F0) λo ho hc hd=>?_
 unfold Builtin.SmallTypes.nextOf
 refine wpAny_bind (wpAny_callSpecial?_slot (name:=Str.ofString "__next__") F0.typeIs F.slot_str_iterator_next (wpAny_call_entry F.slot_str_iterator_next F0.typeIs F.entry_str_iterator_next ?_ (F.args_str_iterator_next_1 _)))
 show wpAny _ _ (field (.ref it) 0>>= _) _ _ s
 refine wpAny_bind (wpAny_field ho hd (x:=.str x t) rfl ?_)
 show wpAny _ _ (field (.ref it) 1>>= _) _ _ s
 refine wpAny_bind (wpAny_field ho hd (x:=.int i 0) rfl ?_)
 simp only[Int.toNat_natCast,hx]
 refine wpAny_bind (wpAny_rule (wpAny_bind (SF ho hd (by simp) λCd OE HE Ad=>wpAny_bind (wpAny_letGo (Mi hh λe h' hk he=>?_)))))
 exact hE h' e (λb o nb q=>hk b o ((Ad.2 b nb).trans q)) ⟨OE,hk _ _ HE⟩ he
theorem Sz{e:Addr}{old:Value}{Q:Option Value->Shared->Prop}(he:IsEnum s.heap e it i old)
 (hD:∀(A:Around) (Q:Value->Shared->Prop) (E:Value->Shared->Prop),A.handled=none->(∀h' e,(∀b o,b≠it->s.heap.get? b=some o->h'.get? b=some o)->(∃o,h'.get? it=some o)->(∃o,h'.get? e=some o/\o.cls=.type "StopIteration")->E (.ref e) {s with heap:=h'})->wpAny (model prog w) A (Builtin.SmallTypes.nextOf (.ref it)) Q E s)
 (hh:A.handled=none) (hQ:∀h',(∀b o,b≠it->s.heap.get? b=some o->h'.get? b=some o)->(∃o,h'.get? it=some o)->Q none {s with heap:=h'}):wpAny (model prog w) A (pyNext (.ref e)) Q E s:=by
 have hT:s.TypeIs (.ref e) "enumerate":=⟨_,he,rfl⟩
 unfold pyNext
 refine wpAny_bind (wpAny_attempt (wpAny_callSpecial?_slot (name:=Str.ofString "__next__") hT F.slot_enumerate_next (wpAny_call_entry F.slot_enumerate_next hT F.entry_enumerate_next ?_ (F.args_enumerate_next_1 _))))
 show wpAny _ _ (field (.ref e) 2>>= _) _ _ _
 refine wpAny_bind (wpAny_field he rfl (x:=.ref it) rfl ?_)
 refine wpAny_bind (hD _ _ _ hh λh' x hk ha hx=>?_)
 revert hx;refine Cw λo ho hc=>?_
 refine wpAny_bind (wpAny_isInstance (T:="StopIteration") (b:=true) ⟨o,ho,hc⟩ isSubtype_stop ?_)
 exact wpAny_pure (hQ _ hk ha)
structure Wc (prog:Program) (w:World) (x:Str) (e it:Addr) (St:Nat->Heap->Prop) (J8:Nat->Addr->Heap->Prop):Prop where
 walk:∀A:Around,A.handled=none->WalksT prog w A e [e,it] [e,it] x.cps.size (λi Ba=>∃t v,SignAt x i v/\Ba= #[.int i t,v]) St J8
 live:∀i h,St i h->(∃o,h.get? e=some o)/\∃o,h.get? it=some o
 done:∀(A:Around) (s:Shared) (Q:Option Value->Shared->Prop) (E:Value->Shared->Prop),A.handled=none->St x.cps.size s.heap->(∀h',(∀b o,b≠it->s.heap.get? b=some o->h'.get? b=some o)->(∃o,h'.get? it=some o)->Q none {s with heap:=h'})->wpAny (model prog w) A (pyNext (.ref e)) Q E s
theorem cB{t:Tok}
 (h:∀h' St J8,Wc prog w x (s.heap.objs.size+1) s.heap.objs.size St J8->St 0 h'->(∀b o,s.heap.get? b=some o->h'.get? b=some o)->Q (.ref (s.heap.objs.size+1)) {s with heap:=h'}):
 wpAny (model prog w) A (call (.type "enumerate") [.str x t]) Q E s:=by
 refine call_enumerate_str λh' he F0 hz hk=>?_
 have KS:s.heap.objs.size+1∉[s.heap.objs.size]:= λm=>Nat.succ_ne_self _ (List.mem_singleton.mp m)
 cases ha:x.cps.all (· <128) with
 |false=>
  have RN:h'.IsStrIter s.heap.objs.size "str_iterator" x t 0:=by simpa [strIterType,ha] using F0
  refine h h' _ _ ⟨λA hA=>WalksT.enumerateD (Draws.strWide (A:=A.in1) hA s.heap.objs.size x t) _ (Nat.succ_ne_self _) KS (List.mem_singleton.mpr rfl),?_,?_⟩ ⟨⟨_,he⟩,RN⟩ hk
  ·rintro i h ⟨⟨old,e1⟩,o,e2,_⟩
   exact⟨⟨_,e1⟩,o,e2⟩
  ·rintro A s' Q E hA ⟨⟨old,e1⟩,e2⟩ k
   exact Sz e1 (λA Q E hA k=>cP hA e2 (Array.getElem?_eq_none (Nat.le_refl _)) k) hA k
 |true=>
  have RN:h'.IsStrIter s.heap.objs.size "str_ascii_iterator" x t 0:=by simpa [strIterType,ha] using F0
  refine h h' _ _ ⟨λA hA=>WalksT.enumerateD (Draws.strAscii (A:=A.in1) hA s.heap.objs.size x t) _ (Nat.succ_ne_self _) KS (List.mem_singleton.mpr rfl),?_,?_⟩ ⟨⟨_,he⟩,RN⟩ hk
  ·rintro i h ⟨⟨old,e1⟩,o,e2,_⟩
   exact⟨⟨_,e1⟩,o,e2⟩
  ·rintro A s' Q E hA ⟨⟨old,e1⟩,e2⟩ k
   exact Sz e1 (λA Q E hA k=>dQ hA e2 (Array.getElem?_eq_none (Nat.le_refl _)) k) hA k
section
variable {g:G7} {c:Code}
noncomputable def P7(g:G7)(env:Env):Result->Sem PySem.Fin:= λr=>((match r with|.ok f=>(.pure f:Sem Flow)|.error e=>.raise e).onRaise λ(x:Value)=>do
 if(<-field x 1)==Value.none then unsupported "frame.own-activation:exception-without-traceback"
 setFlight x env.frame).wrap (gL g env) (Nw env) id id
theorem pG{cs:List Nat}{c i:Nat}{l:List Nat}(h:l.drop i=c::cs):l.drop (i+1)=cs/\l[i]? =some c:=by
 refine⟨?_,Nd h⟩
 rw[<-List.drop_drop,h];rfl
theorem QL{x:AV}(h:its.drop (its.length - (n+1))=x::xs)(hn:xs.length=n):its.drop (its.length - n)=xs:=by
 have hl:its.length - (its.length - (n+1))=n+1:=by
  have:=congrArg List.length h
  rw[List.length_drop,List.length_cons,hn] at this
  exact this
 have:its.length - n=(its.length - (n+1))+1:=by exact Nat.le_antisymm (A7 0x14c412310114a441211312114b2141101 Aa Bl (Nat.sub_add_cancel (Ap 0x14c112115b412210114a1101 Aa hl (Nat.sub_le _ _)))) (A7 0x14c314120114a411312114b2144121101 Aa Bl (Nat.sub_add_cancel (Ap 0x14c114122115b412210114a1101 Aa hl (Nat.sub_le _ _))))
 rw[this,<-List.drop_drop,h];rfl
theorem o0(hA:A.handled=none)(ge:GEnv env){e:Addr}(ne1:env.locals≠e)(ne2:env.locals≠it){St:Nat->Heap->Prop}(W:Wc prog w x e it St J8){p0:Pos}:
 ∀(cs:List Nat) (i:Nat) (b:Bool) (n:Nat) (Ao s:Shared),x.cps.toList.drop i=cs->i+cs.length=x.cps.size->St i s.heap->FrG env s.heap b i->KB [env.locals,e,it] Ao s->n=(Cv i b cs).length->its.drop (its.length - n)=Cv i b cs->
  Seg (model prog w) A (GR [env.locals,e,it]) (GY [env.locals,e,it] its) n Ao (.forLoop (G4 g) (.ref e) (F9 g) [] env) ((model prog w).den (.forLoop (G4 g) (.ref e) (F9 g) [] env)) [.ret (P7 g env) none false [] c p0 []] s:=by
 have hC:∀{h:Heap} {i:Nat} {b:Bool},FrG env h b i->St i h->∀b∈[env.locals,e,it],∃o,h.get? b=some o:= λ{h i b} F hs b' m=>by
  rcases List.mem_cons.mp m with rfl|m
  ·revert F;refine Cw λm Bc _=>?_;obtain⟨o,_,_,e,_⟩:=Bc
   exact⟨o,e⟩
  ·rcases List.mem_cons.mp m with rfl|m
   ·exact(W.live _ _ hs).1
   ·rw[List.mem_singleton.mp m];exact(W.live _ _ hs).2
 have nw:env.locals∉[e,it]:= λm=>by
  rcases List.mem_cons.mp m with h|m
  ·exact ne1 h
  ·exact ne2 (List.mem_singleton.mp m)
 intro cs
 induction cs with
 |nil=>
  intro i b n Ao s hd hi hst F E6 hn hx
  have ei:i=x.cps.size:=by simpa using hi
  refine Tv (W.done _ s _ _ hA (ei▸hst) λh' hk ha=>?_)
  have Dt:∀a o,a∉[env.locals,e,it]->s.heap.get? a=some o->h'.get? a=some o:= λa o m q=>hk a o (λz=>m (z▸by simp)) q
  show Seg _ A _ _ n Ao c ((execs (H1 g) env).wrap NF (Nw env) id id) [] _
  refine fD (i:=i) (b:=b) ge (by simp) (F.at' λo q=>hk _ o ne2 q) (E6.then (tk:=s.toks) E6.tok Dt) (λb' m=>?_) hn hx
  rcases List.mem_cons.mp m with rfl|m
  ·obtain⟨o,q⟩:=hC F hst _ List.mem_cons_self
   exact⟨o,hk _ o ne2 q⟩
  ·rcases List.mem_cons.mp m with rfl|m
   ·by_cases q:b'=it
    ·rw[q];exact ha
    ·obtain⟨o,e1⟩:=(W.live _ _ hst).1
     exact⟨o,hk _ o q e1⟩
   ·rw[List.mem_singleton.mp m];exact ha
 |cons ch cs ih=>
  intro i b n Ao s hd hi hst F E6 hn hx
  obtain⟨FS,Mm⟩:=pG hd
  have D4:i<x.cps.size:=by rw[List.length_cons] at hi;exact Ap 0x16c210114b2144121101 Aa hi
  have Xh:i+1+cs.length=x.cps.size:=by rw[List.length_cons] at hi;exact Nat.le_antisymm (Ap 0x14c214114120114b2144121101 Aa hi) (Ap 0x14c411412012115b2144121101 Aa hi)
  have Mo:(A.over (.forLoop (G4 g) (.ref e) (F9 g) [] env) [.ret (P7 g env) none false [] c p0 []]).handled=none:=hA
  refine Tv (wpAny_with_toks E6.tok ((W.walk _ Mo).item i s _ _ D4 hst λT Ba h' tk hP R1 hT hM hk C1=>?_))
  revert hP;refine Sy λt v Ar B2=>?_;obtain⟨ch',u,hch',rfl⟩:=Ar;obtain rfl:=B2
  rw[Array.getElem?_toList] at Mm
  rw[Mm] at hch';(revert hch';refine As λc0=>?_;subst c0)
  refine(W.walk _ Mo).go _ _ _ _ _ _ _ _ hM λFX Jy IB=>?_
  have R4:FX.IsTuple T #[.int i t,.str ⟨#[ch]⟩ u]:=by
   revert hT;refine Cw λo e q=>?_
   exact⟨o,IB T o ((W.walk A hA).apart _ _ _ hM) e,q⟩
  have H5:∀a o,a∉[e,it]->s.heap.get? a=some o->FX.get? a=some o:= λa o m q=>IB a o m (hk a o m q)
  refine wpAny_assign_Tuple (s:={s with heap:=FX,toks:=tk}) Mo R4 rfl rfl λFR Xf=>?_
  have X6:∀a o,a∉[e,it]->s.heap.get? a=some o->FR.get? a=some o:= λa o m q=>Xf a o (Nat.ne_of_lt (Heap.lt_size (H5 a o m q))) (H5 a o m q)
  have qR:St (i+1) FR:=(W.walk A hA).frame _ _ _ Jy λb' m o q=>Xf b' o (Nat.ne_of_lt (Heap.lt_size q)) q
  revert F;refine Rm λm CE My ON=>?_
  have qU:FR.Ns env.locals m:=CE.at' λo q=>X6 _ o nw q
  have Yu:(env.scope.kind==ScopeKind.class||(env.scope.kind==ScopeKind.module&&env.locals != env.globals))=false:=by rw[ge.kind];rfl
  refine wpAny_assignInOrder_more (wpAny_assign_Name (wpAny_storeName_local ge.kpos qU (λJs rU Ys=>?_) Yu))
  refine wpAny_assignInOrder_more (wpAny_assign_Name (wpAny_storeName_local ge.kch rU (λGZ GX Xl=>?_) Yu))
  refine wpAny_assignInOrder_none ?_
  have pU:∀a o,a∉[env.locals,e,it]->s.heap.get? a=some o->GZ.get? a=some o:= λa o m q=>(Xl.2 a λz=>m (z▸by simp)).trans ((Ys.2 a λz=>m (z▸by simp)).trans (X6 a o (λz=>m (List.mem_cons_of_mem _ z)) q))
  have M5:St (i+1) GZ:=(W.walk A hA).frame _ _ _ qR λb' m o q=>(Xl.2 b' λz=>nw (z▸m)).trans ((Ys.2 b' λz=>nw (z▸m)).trans q)
  have M6:=E6.then (tk:=tk+1+1) (Nat.succ_pos _) pU
  have KR:(λy=>if y=("ch":Str) then some (Value.str ⟨#[ch]⟩ u) else if y=("pos":Str) then some (Value.int (i:Int) t) else m y) "pos"=some (.int (i:Int) t):=by rfl
  have OI:(λy=>if y=("ch":Str) then some (Value.str ⟨#[ch]⟩ u) else if y=("pos":Str) then some (Value.int (i:Int) t) else m y) "ch"=some (.str ⟨#[ch]⟩ u):=by rfl
  have IC:(λy=>if y=("ch":Str) then some (Value.str ⟨#[ch]⟩ u) else if y=("pos":Str) then some (Value.int (i:Int) t) else m y) "escape"=some (.bool b):=My
  generalize (λy=>if y=("ch":Str) then some (Value.str ⟨#[ch]⟩ u) else if y=("pos":Str) then some (Value.int (i:Int) t) else m y)=m₅ at GX KR OI IC
  have Ry:∀b'∈[env.locals,e,it],∃o,GZ.get? b'=some o:=hC (b:=b) (i:=i+1) ⟨m₅,GX,IC,λhb=>by
   have:=KR
   exact⟨t,by rw[KR];simp⟩⟩ M5
  show Seg _ A _ _ n Ao _ ((execs (F9 g) env).wrap _ (Oj env) id id) _ {s with heap:=GZ,toks:=tk+1+1}
  generalize hs5:({s with heap:=GZ,toks:=tk+1+1}:Shared)=s5 at M6 ⊢
  have Yi:s5.heap=GZ:=by rw[<-hs5]
  rw[<-Yi] at GX M5 Ry
  clear hs5 Yi
  unfold F9
  have CY:∀(b':Bool) (n':Nat) (z s6:Shared) {p pos cp:Pos} {l:Nat} (K:Flow->Sem PySem.Fin),K .next=.pure (.again (.forLoop (G4 g) (.ref e) (F9 g) [] env))->0<s6.toks->KB [env.locals,e,it] z s6->St (i+1) s6.heap->s6.heap.Ns env.locals m₅->n'=(Cv (i+1) b' cs).length->its.drop (its.length - n')=Cv (i+1) b' cs->
   Seg (model prog w) A (GR [env.locals,e,it]) (GY [env.locals,e,it] its) n' z (.forLoop (G4 g) (.ref e) (F9 g) [] env) ((exec (.Assign [.Name "escape" p] (.Constant (.bool b') l cp) pos) env).wrap K (Oj env) id id) [.ret (P7 g env) none false [] c p0 []] s6:=by
   intro b' n' z s6 p pos cp l K hK vR q6 rM r8 sI uD
   refine seg_wrap (bX ge ge.kesc r8 rfl (λQ h=>wpAny_Constant_bool (h s6.toks)) λh7 sZ RR tE KG=>?_)
   rw[hK]
   refine seg_again rfl ?_
   have qQ:FrG env h7 b' (i+1):=⟨_,tE,by simp,λ_=>⟨t,by
    show(if("pos":Str)="escape" then some (Value.bool b') else m₅ "pos")=_
    rw[if_neg (by decide),KR];simp⟩⟩
   have tS:St (i+1) h7:=(W.walk A hA).frame _ _ _ rM λb' m o q=>KG b' o (λz=>nw (z▸m)) q
   exact ih (i+1) b' n' z _ FS Xh tS qQ (q6.then RR λa o m q=>KG a o (λz=>m (z▸by simp)) q) sI uD
  refine seg_execs_cons (P9 (S0 ge GX IC ?_))
  cases b with
  |true=>
   rw[if_pos rfl]
   have CZ:n=(Cv (i+1) false cs).length+1:=hn
   subst CZ
   refine seg_execs_cons (Pr (xs:=Cv (i+1) false cs) rfl rfl rfl ge.co (PA ge) (λA Q E k=>oH ge M6.tok GX KR OI k) hx M6 Ry λs'' h0 hs=>?_)
   refine seg_execs_cons (CY false _ s'' s'' _ rfl h0 (.refl h0) ((W.walk A hA).frame _ _ _ M5 λb' m o q=>hs b' (List.mem_cons_of_mem _ m) o q) (GX.at' λo q=>hs _ List.mem_cons_self o q) rfl (QL hx rfl))
  |false=>
   rw[if_neg Bool.false_ne_true]
   refine seg_execs_cons (P9 (wpAny_isTrue_Compare1 (Ig ge ge.kch rfl GX OI (wpAny_Constant_str (PyProof.Rows.eq_str (wpAny_truthy_bool ?_)))) rfl))
   by_cases h92:ch=92
   ·subst h92
    have:((⟨#[92]⟩:Str)==Str.ofString "\\")=true:=by rfl
    rw[this,if_pos rfl]
    refine seg_execs_cons (CY true n Ao _ _ rfl (Nat.succ_pos _) (M6.then (Nat.succ_pos _) λ_ _ _ e=>e) M5 GX ?_ ?_)
    ·rw[hn];simp[Cv]
    ·rw[hx];simp[Cv]
   ·have:((⟨#[ch]⟩:Str)==Str.ofString "\\")=false:=by
     rw[beq_eq_false_iff_ne]
     intro q
     have:(#[ch]:Array Nat)= #[92]:=congrArg Str.cps q
     exact h92 (by simpa using this)
    rw[this,if_neg Bool.false_ne_true]
    have My:Cv i false (ch::cs)=.tup [.int i,.str ⟨#[ch]⟩]::Cv (i+1) false cs:=by simp[Cv,h92]
    rw[My] at hn hx
    have CZ:n=(Cv (i+1) false cs).length+1:=hn
    subst CZ
    refine seg_execs_cons (Pr (s:={s5 with toks:=s5.toks+1}) (xs:=Cv (i+1) false cs) rfl rfl rfl ge.co (PA ge) (λA Q E k=>ZK ge (Nat.succ_pos _) GX KR OI k) hx (M6.then (Nat.succ_pos _) λ_ _ _ e=>e) Ry λs'' h0 hs=>?_)
    refine seg_again rfl (ih (i+1) false _ s'' s'' FS Xh ((W.walk A hA).frame _ _ _ M5 λb' m o q=>hs b' (List.mem_cons_of_mem _ m) o q) ⟨m₅,GX.at' λo q=>hs _ List.mem_cons_self o q,IC,λh=>nomatch h⟩ (.refl h0) rfl (QL hx rfl))
end
noncomputable def NW(mo:List (Str×Const)):Scope:={kind:=.function,names:=[("addr",.local),("pos",.local),("escape",.local),("ch",.local),("enumerate",.globalImplicit)],isGenerator:=true,isCoroutine:=false,more:=mo}
theorem YL:∃(g:G7) (u:Nat->Pos) (l1 l2:Nat) (mo:List (Str×Const)),
 B4 PySem.Challenge.pw_sc0059_01.main.body "_iter_escaped_chars"=some ⟨⟨[],[⟨"addr",none,(u 0)⟩],none,[],[],none,[]⟩,
  .Assign [.Name "pos" (u 1)] (.Constant (.int 0) l1 (u 2)) (u 3)::.Assign [.Name "escape" (u 4)] (.Constant (.bool false) l2 (u 5)) (u 6)::.For (G4 g) (.Call (.Name "enumerate" (u 7)) [.Name "addr" (u 8)] [] (u 9)) (F9 g) [] (u 10)::H1 g,NW mo⟩:=
 ⟨⟨MK [_,_,_,_,_,_,_,_,_,_,_,_,_,_,_,_,_,_,_,_,_,_,_,_,_,_,_,_,_,_,_,_,_,_],oT [_,_,_,_,_,_,_,_,_]⟩,MK [_,_,_,_,_,_,_,_,_,_,_],_,_,_,rfl⟩
structure QM (env:Env):Prop extends GEnv env where
 ken:env.kindOf "enumerate"=some .globalImplicit
 gl:env.globals=mainGlobals
 bi:env.builtins=builtinsNs
section
variable {g:G7}
theorem j9(T:Bx c top)(hA:A.handled=none)(ge:QM env)(hb:∀a o,c.base.get? a=some o->¬c.isTab a->s.heap.get? a=some o)(hC:c.base.get? env.locals=none)(CE:s.heap.Ns env.locals m)(hm:m "addr"=some (.str x tt))(C1:0<s.toks)
 {a1 a2 a3 b1 b2 b3 c1 c2 c3 c4:Pos} {l1 l2:Nat}:
 Seg (model prog w) A (GR [env.locals,s.heap.objs.size+1,s.heap.objs.size]) (GY [env.locals,s.heap.objs.size+1,s.heap.objs.size] (Cv 0 false x.cps.toList)) (Cv 0 false x.cps.toList).length s
  (.func (.Assign [.Name "pos" a1] (.Constant (.int 0) l1 a2) a3::.Assign [.Name "escape" b1] (.Constant (.bool false) l2 b2) b3::.For (G4 g) (.Call (.Name "enumerate" c1) [.Name "addr" c2] [] c3) (F9 g) [] c4::H1 g) env)
  ((model prog w).den (.func (.Assign [.Name "pos" a1] (.Constant (.int 0) l1 a2) a3::.Assign [.Name "escape" b1] (.Constant (.bool false) l2 b2) b3::.For (G4 g) (.Call (.Name "enumerate" c1) [.Name "addr" c2] [] c3) (F9 g) [] c4::H1 g) env)) [] s:=by
 have lt:env.locals<s.heap.objs.size:=CE.lt
 refine seg_func (seg_execs_cons ?_)
 refine seg_wrap (wpAny_Assign_Name (wpAny_Constant_int (wpAny_storeName_local ge.kpos CE (λh1 pS Bl=>?_) (by rw[ge.kind];rfl))) rfl)
 refine seg_execs_cons ?_
 refine seg_wrap (wpAny_Assign_Name (wpAny_Constant_bool (wpAny_storeName_local ge.kesc pS (λh2 Yq HT=>?_) (by rw[ge.kind];rfl))) rfl)
 refine seg_execs_cons ?_
 have k2:∀a o,a≠env.locals->s.heap.get? a=some o->h2.get? a=some o:= λa o na e=>(HT.2 a na).trans ((Bl.2 a na).trans e)
 have z2:h2.objs.size=s.heap.objs.size:=HT.1.trans Bl.1
 have nb:∀{a o},c.base.get? a=some o->a≠env.locals:= λe q=>by rw[q,hC] at e;exact Az e
 have hg:h2.Ns env.globals c.mg:=by rw[ge.gl];exact T.glob.at' λo e=>k2 _ _ (nb e) (hb _ _ e T.ngl)
 have u6:h2.Ns env.builtins c.mb:=by rw[ge.bi];exact T.blt.at' λo e=>k2 _ _ (nb e) (hb _ _ e T.nbl)
 have uL:KB [env.locals,s.heap.objs.size+1,s.heap.objs.size] s {s with heap:=h2,toks:=s.toks+1+1+1}:=
  ⟨h2,_,rfl,Nat.succ_pos _,λa o m e=>k2 a o (λq=>m (q▸List.mem_cons_self)) e⟩
 have Mo:(A.over (.func (.Assign [.Name "pos" a1] (.Constant (.int 0) l1 a2) a3::.Assign [.Name "escape" b1] (.Constant (.bool false) l2 b2) b3::.For (G4 g) (.Call (.Name "enumerate" c1) [.Name "addr" c2] [] c3) (F9 g) [] c4::H1 g) env) []).handled=none:=hA
 refine Zu (λx=>IK rfl) (wpAny_Call_ofName (Name_function_global ge.kind ge.ken (loadGlobal_builtin hg T.enumerate.1 u6 T.enumerate.2 ?_)))
 refine PyProof.Rows.callWith_type (by rw[D7 rfl];rfl) (IE (by rw[D7 rfl];rfl) ?_)
 rw[D7 rfl]
 have ma:(λy=>if y=("escape":Str) then some (Value.bool false) else if y=("pos":Str) then some (Value.int 0 s.toks) else m y) "addr"=some (.str x tt):=hm
 refine spliced_cons (Ig ge.toGEnv ge.kaddr rfl Yq ma (spliced_nil (cB λh3 St J8 W hst hk=>?_)))
 refine(W.walk _ Mo).self 0 _ _ _ hst λp=>?_
 dsimp only at W hst hk ⊢
 rw[z2] at W ⊢
 refine o0 hA ge.toGEnv (Nat.ne_of_lt (Nat.lt_succ_of_lt lt)) (Nat.ne_of_lt lt) W x.cps.toList 0 false _ s _ rfl (by simp) hst ⟨_,Yq.at' λo e=>hk _ o e,rfl,λh=>nomatch h⟩ (uL.then (Nat.succ_pos _) λa o _ e=>hk a o e) rfl ?_
 rw[Nat.sub_self];rfl
end
section
variable {L:List Addr}
theorem dS{f:α->Sem β}{Q:β->Shared->Prop}(hh:A.handled=none)(h:∀e h',(∀b o,s.heap.get? b=some o->h'.get? b=some o)->(∃o,h'.get? e=some o/\o.cls=.type "StopIteration")->E (.ref e) {s with heap:=h'}):
 wpAny (model prog w) A (newExc (.type "StopIteration") []>>= λe=>(raiseNew e:Sem α)>>= f) Q E s:=by
 have e:(newExc (.type "StopIteration") []>>= λe=>(raiseNew e:Sem α)>>= f)=((Builtin.SmallTypes.stopIteration:Sem α)>>= f):=(bind_assoc _ _ _).symm
 rw[e]
 exact wpAny_bind (Mi hh h)
theorem Wu{g:Nat}{gs:GenState}{Q:Option Value->Shared->Prop}(hh:A.handled=none)(hl:s.heap.NoLimit)(EN:A.depth<recursionLimit)(hg:s.heap.IsGen a g)(FM:s.gens[g]? =some gs)
 (EP:gs.Goes (model prog w) A.in1 (GR L) (GY L its) n (.send .none) (s.setGen g .running))
 (hY:∀v Ad Df,Df.bare=true->GY L its (n - 1) (s.setGen g .running) v Ad (λr' s''=>match n with
  |0=>False
  |m+1=>Df.Goes (model prog w) A.in1 (GR L) (GY L its) m r' s'')->Q (some v) (Ad.setGen g Df))
 (hP:∀Ad,n=0->KB L (s.setGen g .running) Ad->∀h',(∀b o,Ad.heap.get? b=some o->h'.get? b=some o)->Q none {Ad.setGen g .finished with heap:=h'}):
 wpAny (model prog w) A (pyNext (.ref a)) Q E s:=by
 unfold pyNext
 refine wpAny_bind (wpAny_attempt (wpAny_callSpecial?_slot (name:=Str.ofString "__next__") hg.typeIs slot_gen_next (wpAny_call_entry slot_gen_next hg.typeIs entry_gen_next ?_ (args_gen_next _))))
 show wpAny _ A.in1 (Builtin.Generator.genWake (.ref a) (.send .none)) _ _ s
 unfold Builtin.Generator.genWake
 refine wpAny_bind (wpAny_holding (wpAny_genNumber hg (wpAny_bind (wpAny_genState FM ?_))))
 cases gs with
 |running=>exact EP.elim
 |finished=>exact EP.elim
 |_=>
  refine wpAny_bind (wpAny_roomToWake hl EN ?_)
  show wpAny _ A.in1 (.resume g (.send .none) [] _) _ _ s
  refine wpAny_resumeQ FM EP (λx Ad hx=>?_) (λv Ad Df hb hv=>wpAny_pure ⟨v,rfl,wpAny_pure (hY v Ad Df hb hv)⟩)
  revert hx;refine Rk λBB hn hp=>?_;obtain rfl:=BB
  refine dS (A:=A.in1) hh λe h' hk ⟨o,he,hc⟩=>?_
  refine wpAny_bind (wpAny_isInstance (T:="StopIteration") (b:=true) ⟨o,he,hc⟩ isSubtype_stop ?_)
  exact wpAny_pure (hP Ad hn hp h' hk)
theorem Wt(I:Inv c G s env ρ)(hL:∀b∈L,G b=none/\c.base.get? b=none){gens:Array GenState}{g lo:Nat}(Fz:∀b∈L,lo<=b)(C1:0<tk)(hk:∀b o,b∉L->s.heap.get? b=some o->h.get? b=some o)(hg:GenOnlyQ g s.gens gens):
 Inv c G {s with heap:=h,toks:=tk,gens:=gens} env ρ/\Tr c (λAo=>(∀b,lo<=b->Ao.heap.get? b=none)/\Ao.gens.size<=g) ρ G s ρ G {s with heap:=h,toks:=tk,gens:=gens}:=by
 refine⟨I.loose (W:=L) hL hk (hg.bare I.stat.bare) C1,λAH AC Ao hF N=>N.loose (W:=L) (λb m=>hF.1 b (Fz b m)) hk (λi x e hi=>?_) rfl⟩
 rcases hg with q|⟨⟨_,q⟩,_⟩
 ·rw[q];exact e
 ·rw[q i (Nat.ne_of_lt (Nat.lt_of_lt_of_le hi hF.2))];exact e
structure Susp (prog:Program) (w:World) (A:Around) (c:Cx) (its:List AV) (a g lo:Nat) (L:List Addr) (xs:List AV) (G:Gh) (s:Shared):Prop where
 gen:s.heap.IsGen a g
 ga:G a=none
 ba:c.base.get? a=none
 al:a∉L
 own:∀b∈L,G b=none/\c.base.get? b=none/\lo<=b
 live:∀b∈L,∃o,s.heap.get? b=some o
 rest:its.drop (its.length - xs.length)=xs
 goes:∃gs,s.gens[g]? =some gs/\∀s'',0<s''.toks->(∀b∈L,∀o,s.heap.get? b=some o->s''.heap.get? b=some o)->gs.Goes (model prog w) A.in1 (GR L) (GY L its) xs.length (.send .none) s''
theorem Susp.later{a g lo:Nat}(S:Susp prog w A c its a g lo L xs G s)(hW:∀b,W b)(N:Ft c W G s G' s')(I':Inv c G' s' env ρ'):Susp prog w A c its a g lo L xs G' s':=by
 have nt:∀{b},c.base.get? b=none->¬c.isTab b:= λ{b} e ⟨t,m,q⟩=>by
  have:=(I'.stat.tab t m).2
  rw[q,e] at this;exact Az this
 refine DS (S.gen) λo nm qn ho q=>?_
 obtain⟨e1,e2⟩:=N.fu.keep a o (hW a) ho S.ga (nt S.ba)
 have kL:∀b∈L,∀o,s.heap.get? b=some o->s'.heap.get? b=some o/\G' b=none:= λb m o e=>N.fu.keep b o (hW b) e (S.own b m).1 (nt (S.own b m).2.1)
 refine⟨⟨o,nm,qn,e1,q⟩,e2,S.ba,S.al,λb m=>?_,λb m=>?_,S.rest,?_⟩
 ·obtain⟨o,e⟩:=S.live b m
  exact⟨(kL b m o e).2,(S.own b m).2⟩
 ·obtain⟨o,e⟩:=S.live b m
  exact⟨o,(kL b m o e).1⟩
 ·refine Ak (S.goes) λgs h1 h2=>?_
  exact⟨gs,N.gens _ _ h1,λs'' h0 hs=>h2 s'' h0 λb m o e=>hs b m o (kL b m o e).1⟩
theorem UQ(T:Bx c top)(hA:A.handled=none)(EN:A.depth<=900){a g lo:Nat}{gs:GenState}(I:Inv c G s env ρ)(hg:s.heap.IsGen a g)(FM:s.gens[g]? =some gs)(EP:gs.Goes (model prog w) A.in1 (GR L) (GY L its) 0 (.send .none) (s.setGen g .running))
 (hL:∀b∈L,G b=none/\c.base.get? b=none/\lo<=b) {Q:Option Value->Shared->Prop}
 (k:∀s'',Tr c (λAo=>(∀b,lo<=b->Ao.heap.get? b=none)/\Ao.gens.size<=g) ρ G s ρ G s''->Inv c G s'' env ρ->Q none s''):wpAny (model prog w) A (pyNext (.ref a)) Q E s:=by
 have lim:s.heap.NoLimit:=by
  refine Ak (T.lim) λmc CZ hm=>?_
  exact⟨mc,CZ.at' λo e=>I.stat.keep _ _ e T.nst,hm⟩
 refine Wu hA lim (by rw[show recursionLimit=1000 from rfl];exact Ah 0x16c3e8330114a3843301 Aa EN) hg FM EP (λv Ad Df _ hv=>?_) λAd _ hk h' Dt=>?_
 ·revert hv;refine Ni λ_ hk _ h=>?_
  exact False.elim (h Ad hk.tok λ_ _ _ e=>e)
 ·revert hk;refine Ma λh tk Ar C1 hk=>?_;obtain rfl:=Ar
  obtain⟨Ax,tr⟩:=Wt (gens:=(s.setGen g .running |>.setGen g .finished).gens) (g:=g) (lo:=lo) I (λb m=>⟨(hL b m).1,(hL b m).2.1⟩) (λb m=>(hL b m).2.2) C1 (λb o m e=>Dt b o (hk b o m e))
   (GenOnlyQ.of ((GenOnly.setGen s g .running).trans (GenOnly.setGen _ g .finished)) (setGen_self (gs:=.running) (setGen_self FM)) rfl)
  exact k _ tr Ax
end
section
variable {L:List Addr}
theorem Ta(T:Bx c top)(hA:A.handled=none)(EN:A.depth<=900){a g lo:Nat}{gs:GenState}{x:AV}{kk:Nat}{p:Pos}(I:Inv c G s env ρ)(Ag:env.scope=sc)(hg:s.heap.IsGen a g)(FM:s.gens[g]? =some gs)
 (ga:G a=none) (ba:c.base.get? a=none) (al:a∉L) (EP:gs.Goes (model prog w) A.in1 (GR L) (GY L its) (xs.length+1) (.send .none) (s.setGen g .running)) (hL:∀b∈L,G b=none/\c.base.get? b=none/\lo<=b)
 (XF:its.drop (its.length - (xs.length+1))=x::xs) (qA:BS sc (.Tuple ts kk p) x ρ=some Aw) {F:Shared->Prop} (hF:F= λAo=>(∀b,lo<=b->Ao.heap.get? b=none)/\Ao.gens.size<=g)
 (next:∀G' s',Susp prog w A c its a g lo L xs G' s'->ItT prog w c A F (λ_=>True) a xs G' s') {Q:Unit->Shared->Prop}
 (k:∀s'',Tr c F ρ G s Aw G s''->Inv c G s'' env Aw->ItT prog w c A F (λ_=>True) a xs G s''->Q () s''):
 wpAny (model prog w) A (pyNext (.ref a)) (λr Ad=>∃v,r=some v/\wpAny (model prog w) A (letOwnedTupleGo (.Tuple ts kk p) (.ref a) v) (λ_ A4=>wpAny (model prog w) A (assign (.Tuple ts kk p) env v) Q E A4) E Ad) E s:=by
 subst hF
 have lim:s.heap.NoLimit:=by
  refine Ak (T.lim) λmc CZ hm=>?_
  exact⟨mc,CZ.at' λo e=>I.stat.keep _ _ e T.nst,hm⟩
 refine Wu hA lim (by rw[show recursionLimit=1000 from rfl];exact Ah 0x16c3e8330114a3843301 Aa EN) hg FM EP (λv Ad Df hb hv=>⟨v,rfl,?_⟩) λAd h0=>absurd h0 (Nat.succ_ne_zero _)
 revert hv;refine Ni λBB E6 Es OV=>?_;obtain⟨xs',p',st,T',t1,t2,hx,rfl,hTL,hT⟩:=BB
 have hx:its.drop (its.length - (xs.length+1))=AV.tup [.int p',.str st]::xs':=hx
 rw[XF] at hx
 (injection hx with c0 c1;subst c0;subst c1)
 revert E6;refine Ma λh tk Ar C1 hk=>?_;obtain rfl:=Ar
 obtain⟨Ax,tr⟩:=Wt (gens:=(s.setGen g .running |>.setGen g Df).gens) (g:=g) (lo:=lo) I (λb m=>⟨(hL b m).1,(hL b m).2.1⟩) (λb m=>(hL b m).2.2) C1 hk
  (GenOnlyQ.of ((GenOnly.setGen s g .running).trans (GenOnly.setGen _ g Df)) (setGen_self (gs:=.running) (setGen_self FM)) hb)
 revert hg;refine fT λo nm qn ho hc q=>?_
 have q7:Susp prog w A c its a g lo L xs G {s with heap:=h,toks:=tk,gens:=(s.setGen g .running |>.setGen g Df).gens}:=
  ⟨⟨o,nm,qn,hk a o al ho,hc,q⟩,ga,ba,al,hL,Es,QL XF rfl,Df,setGen_self (gs:=.running) (setGen_self FM),λs'' h0 hs=>OV s'' h0 hs⟩
 refine Pn (s:={s with heap:=h,toks:=tk,gens:=(s.setGen g .running |>.setGen g Df).gens}) (hk a o al ho) hc (by decide) ?_
 refine TL (s:={s with heap:=h,toks:=tk,gens:=(s.setGen g .running |>.setGen g Df).gens}) hA Ag qA Ax (.refl ..) hT (.cons .int (.cons .str .nil)) λAU AM Bf=>k AU (λAH AC Ao hF N=>(tr _ _ _ hF N).trans AM) Bf (next G AU (q7.later (W:= λ_=>True) (λ_=>trivial) AM.ft Bf))
theorem aS(T:Bx c top)(hA:A.handled=none)(EN:A.depth<=900){a g lo:Nat}:∀(xs:List AV) (G:Gh) (s:Shared),Susp prog w A c its a g lo L xs G s->ItT prog w c A (λAo=>(∀b,lo<=b->Ao.heap.get? b=none)/\Ao.gens.size<=g) (λ_=>True) a xs G s:=by
 intro Al
 induction Al with
 |nil=>
  intro G s S
  exact λρ' G' s' env Q E N I' k=>by
   have S':=S.later (λ_=>trivial) N I'
   refine Ak (S'.goes) λgs h1 h2=>?_
   exact UQ T hA EN I' S'.gen h1 (h2 (s'.setGen g .running) I'.stat.tok λ_ _ _ e=>e) S'.own k
 |cons x xs zih=>
  intro G s S
  exact λsc ts kk p ρ' Aw G' s' env Q E Ag N I' ha k=>by
   have S':=S.later (λ_=>trivial) N I'
   refine Ak (S'.goes) λgs h1 h2=>?_
   exact Ta T hA EN I' Ag S'.gen h1 S'.ga S'.ba S'.al (h2 (s'.setGen g .running) I'.stat.tok λ_ _ _ e=>e) S'.own S'.rest ha rfl (λCD s'' Se=>zih CD s'' Se) λs'' tr RX H=>k G' s'' tr (.refl _) RX H
theorem gF(T:Bx c top)(hA:A.handled=none)(EN:A.depth<=900){E9:Env}(ge:QM E9){g:G7}{a1 a2 a3 b1 b2 b3 c1 c2 c3 c4:Pos}{l1 l2:Nat}{a gn lo:Nat}(hg:s.heap.IsGen a gn)
 (FM:s.gens[gn]? =some (.fresh (.func (.Assign [.Name "pos" a1] (.Constant (.int 0) l1 a2) a3::.Assign [.Name "escape" b1] (.Constant (.bool false) l2 b2) b3::.For (G4 g) (.Call (.Name "enumerate" c1) [.Name "addr" c2] [] c3) (F9 g) [] c4::H1 g) E9)))
 (ga:G a=none) (ba:c.base.get? a=none) (gC:G E9.locals=none) (bC:c.base.get? E9.locals=none) (Fz:lo<=E9.locals) (KS:a≠E9.locals) (CE:s.heap.Ns E9.locals m) (hm:m "addr"=some (.str x tt)):
 ItT prog w c A (λAo=>(∀b,lo<=b->Ao.heap.get? b=none)/\Ao.gens.size<=gn) (λ_=>True) a (Cv 0 false x.cps.toList) G s:=by
 have at':∀{G' s' ρ' env},Ft c (λ_=>True) G s G' s'->Inv c G' s' env ρ'->s'.heap.IsGen a gn/\G' a=none/\s'.heap.Ns E9.locals m/\a∉[E9.locals,s'.heap.objs.size+1,s'.heap.objs.size]/\(∀b∈[E9.locals,s'.heap.objs.size+1,s'.heap.objs.size],G' b=none/\c.base.get? b=none/\lo<=b):= λ{G' s' ρ' env} N I'=>by
  have nt:∀{b},c.base.get? b=none->¬c.isTab b:= λ{b} e ⟨t,m,q⟩=>by
   have:=(I'.stat.tab t m).2
   rw[q,e] at this;exact Az this
  revert hg;refine TD λo nm qn ho q=>?_
  obtain⟨e1,e2⟩:=N.fu.keep a o trivial ho ga (nt ba)
  refine DS (id CE) λoC _ _ eC _=>?_
  obtain⟨f1,f2⟩:=N.fu.keep _ oC trivial eC gC (nt bC)
  have Xk:s'.heap.Ns E9.locals m:=CE.at' λo e=>(N.fu.keep _ o trivial e gC (nt bC)).1
  have d0:s'.heap.get? s'.heap.objs.size=none:=Heap.get?_none_of_le (Nat.le_refl _)
  have d1:s'.heap.get? (s'.heap.objs.size+1)=none:=Heap.get?_none_of_le (Nat.le_succ _)
  have lt:=Xk.lt
  refine⟨⟨o,nm,qn,e1,q⟩,e2,Xk,λm=>?_,λb m=>?_⟩
  ·rcases List.mem_cons.mp m with h|m
   ·exact KS h
   ·rcases List.mem_cons.mp m with rfl|m
    ·rw[d1] at e1;exact Az e1
    ·rw[List.mem_singleton.mp m,d0] at e1;exact Az e1
  ·rcases List.mem_cons.mp m with rfl|m
   ·exact⟨f2,bC,Fz⟩
   ·rcases List.mem_cons.mp m with rfl|m
    ·exact⟨I'.fresh d1,I'.baseNone d1,Nat.le_succ_of_le (Nat.le_of_lt (Nat.lt_of_le_of_lt Fz lt))⟩
    ·rw[List.mem_singleton.mp m];exact⟨I'.fresh d0,I'.baseNone d0,Nat.le_of_lt (Nat.lt_of_le_of_lt Fz lt)⟩
 have Yg:= λ(s':Shared) (G':Gh) (ρ':R) (env:Env) (N:Ft c (λ_=>True) G s G' s') (I':Inv c G' s' env ρ')=>j9 (prog:=prog) (w:=w) (A:=A.in1) (s:=s'.setGen gn .running) T hA ge I'.stat.keep bC (at' N I').2.2.1 hm I'.stat.tok (g:=g) (a1:=a1) (a2:=a2) (a3:=a3) (b1:=b1) (b2:=b2) (b3:=b3) (c1:=c1) (c2:=c2) (c3:=c3) (c4:=c4) (l1:=l1) (l2:=l2)
 suffices ∀ys,Cv 0 false x.cps.toList=ys->ItT prog w c A (λAo=>(∀b,lo<=b->Ao.heap.get? b=none)/\Ao.gens.size<=gn) (λ_=>True) a ys G s from this _ rfl
 intro ys J9
 cases ys with
 |nil=>
  intro ρ' G' s' env Q E N I' k
  refine Kb (at' N I') λh1 h2 h3 h4 h5=>?_
  have sg:=Yg s' G' ρ' env N I'
  rw[J9] at sg
  exact UQ T hA EN I' h1 (N.gens _ _ FM) ⟨rfl,sg⟩ h5 k
 |cons y ys=>
  intro sc ts kk p ρ' Aw G' s' env Q E Ag N I' ha k
  refine Kb (at' N I') λh1 h2 h3 h4 h5=>?_
  have sg:=Yg s' G' ρ' env N I'
  rw[J9] at sg
  refine Ta (its:=y::ys) T hA EN I' Ag h1 (N.gens _ _ FM) h2 ba h4 ⟨rfl,sg⟩ h5 ?_ ha rfl (λCD s'' Se=>aS T hA EN ys CD s'' Se) λs'' tr RX H=>k G' s'' tr (.refl _) RX H
  rw[List.length_cons,Nat.sub_self];rfl
end
section
variable {K:Frag}
theorem SX.gen(T:Bx c top)(C:ClsK w c top K)(hr:Bd prog w c n r){a:PySem.Expr}{f:Fl}(hg:BV sc "_iter_escaped_chars"=true)(ha:BI a=true)(hi:JZ r sc "_iter_escaped_chars" a ρ=some (its,Aw))(hl:BP (forTurn r sc (.Tuple ts tk tp) b) its Aw=some (f,ρ')):
 SX prog w c n sc (.For (.Tuple ts tk tp) (.Call (.Name "_iter_escaped_chars" pf) [a] [] cp) b [] pos) ρ f ρ':=by
 refine BQ hi λv B8 hv h2=>?_
 intro A env G s Q E hA Ag I k
 dsimp only at h2
 rw[if_neg (by decide)] at h2
 refine AL h2 λx hx h3=>?_
 refine AL h3 λ_ DK h4=>?_
 (revert h4;refine AO λc1 c2=>?_;subst c1;subst c2)
 refine j0 (YL) λg u l1 l2 mo E8=>?_
 rw[<-C.htop] at E8
 refine DS (T.gen _ E8) λfa o fd hf F=>?_
 refine wpAny_For (Kv T hg rfl Ag I F hf (Iy ha rfl ((hr.e _ _ _ _ _ hv).then hA Ag I (.refl ..) λAv Ad v' Au An B5 Bj=>?_))) λx=>IK rfl
 obtain⟨tt,rfl⟩:=VR.isStr hx Bj
 refine spliced_nil (wpAny_evalAll_nil ⟨An.stat.keep _ _ F.at' F.nt,?_⟩)
 refine D3 (F.binds (λ_ _=>True) Ad (.str x) (.str x tt) [] [] [] [] [("addr",.str x)] An.stat.keep rfl .nil .nil trivial (λ_=>trivial)) λp bb X9 e1 e2 Fx Jv=>?_
 (injection e1 with c0 c1;revert c0;refine FI λc2 c3=>?_;subst c2;clear c3;subst c1)
 cases Jv
 refine MS (F.code) λcc oc cvs tq k1 k2 k3 k4 k5=>?_
 have F2:A.depth<=900:=by have:=hA.2.1;exact Ac 0x14c384330114a3843344151101 Aa this
 have FZ:=F.scope
 refine wpAny_call (codeAny_call_generator (by rw[show recursionLimit=1000 from rfl];exact Ah 0x16c3e8330114a3843301 Aa F2) (An.stat.keep _ _ F.at' F.nt) F.data (by rw[FZ];rfl) (by rw[FZ];rfl) F.body ⟨cc,oc,cvs,tq,k1,An.stat.keep _ _ k2 k3,k4,k5⟩ (Fx _ _ _ _ ?_))
 rw[F.clos,F.glob,F.blt,FZ]
 refine wpAny_newFunctionEnv (λy m=>?_) (λy m=>?_) (λh' CE RO=>?_) rfl
 ·have m:y∈(NW mo).names:=m
  unfold NW at m
  simp only[List.mem_cons,List.not_mem_nil,or_false] at m
  rcases m with rfl|rfl|rfl|rfl|rfl<;>exact λh=>NameKind.noConfusion h
 ·rcases List.mem_singleton.mp m with rfl
  rfl
 have hk:∀b o,Ad.heap.get? b=some o->h'.get? b=some o:= λb o e=>RO.extBut b o (Nat.ne_of_lt (Heap.lt_size e)) (Heap.get?_push_of_some _ e)
 have lim:h'.NoLimit:=by
  refine Ak (T.lim) λmc CZ hm=>?_
  exact⟨mc,CZ.at' λo e=>hk _ _ (An.stat.keep _ _ e T.nst),hm⟩
 refine⟨lim,?_⟩
 dsimp only
 generalize EP:({cls:=Value.type "generator",data:=.fields #[.int Ad.gens.size 0,.str fd.name (Ad.toks+[(("addr":Str),Value.str x tt)].length),.str fd.qualname (Ad.toks+[(("addr":Str),Value.str x tt)].length+1)]}:Obj)=go
 have Hc:(h'.push go).IsGen h'.objs.size Ad.gens.size:=⟨go,_,_,Heap.get?_push_size _ (by rw[<-EP];rfl),by rw[<-EP],by rw[<-EP],by rw[<-EP]⟩
 generalize hen:newEnv (NW mo) Ad.heap.objs.size mainGlobals [] (fd.qualname++".<locals>.") (some fa) fd.code none builtinsNs=E9
 have ge:QM E9:=by subst hen;exact⟨⟨rfl,rfl,rfl,rfl,rfl,rfl⟩,rfl,rfl,rfl⟩
 have eC:E9.locals=Ad.heap.objs.size:=by subst hen;rfl
 rw[<-eC] at CE
 have Yk:∀b o,Ad.heap.get? b=some o->(h'.push go).get? b=some o:= λb o e=>Heap.get?_push_of_some _ (hk b o e)
 have dC:Ad.heap.get? Ad.heap.objs.size=none:=Heap.get?_none_of_le (Nat.le_refl _)
 have lt:E9.locals<h'.objs.size:=CE.lt
 have dA:Ad.heap.get? h'.objs.size=none:=Heap.get?_none_of_le (Nat.le_of_lt (eC▸lt))
 have tV:∀(i:Nat) (y:GenState) (z:GenState),Ad.gens[i]? =some y->(Ad.gens.push z)[i]? =some y:= λi y z e=>by
  have h:=(Array.getElem?_eq_some_iff.mp e).1
  rw[Array.getElem?_push,if_neg (Nat.ne_of_lt h)];exact e
 refine wpAny_pyIter_gen Hc ?_
 refine T2 (R':= λr s'=>match r with|.ok f=>Q f s'|.error e=>cameBackBy (model prog w) A env E e s') hr hA Ag (F:= λAo=>(∀b,Ad.heap.objs.size<=b->Ao.heap.get? b=none)/\Ao.gens.size<=Ad.gens.size) ⟨λb hb=>Au.dead (Heap.get?_none_of_le hb),?_⟩ (λG' s' f' N' I' W=>k G' s' f' N' I' W) hl
  (gF T hA.1 F2 ge Hc (by rw[Array.getElem?_push_size]) (An.fresh dA) (An.baseNone dA) (eC▸An.fresh dC) (eC▸An.baseNone dC) (Nat.le_of_eq eC.symm) (λh=>Nat.lt_irrefl _ (h▸lt)) (CE.at' λo e=>Heap.get?_push_of_some _ e) rfl)
  (An.grown Yk (λy m=>?_) (Nat.succ_pos _)) (Au.trans (.grown Yk (λi y e=>tV i y _ e) rfl))
 ·rcases Nat.lt_or_ge Ad.gens.size s.gens.size with h|h
  ·have:=Au.gens Ad.gens.size s.gens[Ad.gens.size] (Array.getElem?_eq_getElem h)
   rw[Array.getElem?_eq_none (Nat.le_refl _)] at this;exact Az this
  ·exact h
 ·rcases Array.mem_push.mp m with m|rfl
  ·exact An.stat.bare y m
  ·rfl
end
section
variable {m:Nat} {K:Frag}
theorem OkA.le(h:OkA A m)(l:n<=m):OkA A n:=⟨h.1,by have:=h.2.1;exact Ap 0x14c384334415012114a384334415112144a1101 Aa this l,by have:=h.2.2;exact Ap 0x14c23284343c25012114a23284343c2511213c4d1101 Aa this l⟩
theorem SE.up(h:SE prog w c n sc e ρ v ρ')(l:n<=m):SE prog w c m sc e ρ v ρ':= λA env G s Q E hA=>h A env G s Q E (hA.le l)
theorem ST.up{b:Bool}(h:ST prog w c n sc e ρ b ρ')(l:n<=m):ST prog w c m sc e ρ b ρ':= λA env G s Q E hA=>h A env G s Q E (hA.le l)
theorem SX.up{st:Stmt}{f:Fl}(h:SX prog w c n sc st ρ f ρ')(l:n<=m):SX prog w c m sc st ρ f ρ':= λA env G s Q E hA=>h A env G s Q E (hA.le l)
theorem UN{o:PySem.Expr}{f:Str}{p:Pos}(h:IW e=some (o,f,p)):e=.Attribute o f p:=by
 exact(FD h:)
theorem ST.boolop(hr:Bd prog w c n r){op:BoolOp}{vs:List PySem.Expr}{b:Bool}(h:VS r sc op vs ρ=some (b,ρ')):ST prog w c n sc (.BoolOp op vs pos) ρ b ρ':=by
 refine BQ h λx y hv h1=>?_
 refine BQ h1 λt Aw ht h2=>?_
 obtain rfl:=LH hv
 intro A env G s Q E hA Ag I k
 refine wpAny_isTrue_BoolOp ?_
 cases op with
 |And=>
  refine wpAny_allTrue_And_cons (hr.t _ _ _ _ _ ht A env G s _ _ hA Ag I λAv Ad Au An=>?_)
  have h:(if t=true then r.t sc y Aw else some (false,Aw))=some (b,ρ'):=h2
  cases t with
  |true=>
   rw[if_pos rfl] at h ⊢
   refine wpAny_allTrue_And_cons (hr.t _ _ _ _ _ h A env Av Ad _ _ hA Ag An λAY A4 A8 Ax=>?_)
   cases b with
   |true=>rw[if_pos rfl];exact wpAny_allTrue_And_nil (k _ _ (Au.trans A8) Ax)
   |false=>rw[if_neg Bool.false_ne_true];exact k _ _ (Au.trans A8) Ax
  |false=>
   rw[if_neg Bool.false_ne_true] at h ⊢
   (revert h;refine AO λc1 c2=>?_;subst c1;subst c2)
   exact k _ _ Au An
 |Or=>
  refine wpAny_allTrue_Or_cons (hr.t _ _ _ _ _ ht A env G s _ _ hA Ag I λAv Ad Au An=>?_)
  have h:(if t=true then some (true,Aw) else r.t sc y Aw)=some (b,ρ'):=h2
  cases t with
  |true=>
   rw[if_pos rfl] at h ⊢
   (revert h;refine AO λc1 c2=>?_;subst c1;subst c2)
   exact k _ _ Au An
  |false=>
   rw[if_neg Bool.false_ne_true] at h ⊢
   refine wpAny_allTrue_Or_cons (hr.t _ _ _ _ _ h A env Av Ad _ _ hA Ag An λAY A4 A8 Ax=>?_)
   cases b with
   |true=>rw[if_pos rfl];exact k _ _ (Au.trans A8) Ax
   |false=>rw[if_neg Bool.false_ne_true];exact wpAny_allTrue_Or_nil (k _ _ (Au.trans A8) Ax)
set_option tactic.hygienic true in
theorem SE.call(T:Bx c top)(C:ClsK w c top K)(hr:Bd prog w c n r){f:PySem.Expr}{p:Pos}(h:Dd r top sc f args AT p ρ=some (v,ρ')):SE prog w c (n+1) sc (.Call f args AT p) ρ v ρ':=by
 unfold Dd at h
 split at h
 ·rename_i x hx
  obtain⟨q,rfl⟩:=EB hx
  revert h;refine Ai λ_ hg h=>?_
  have ho:DI x=false:=by simpa using(Bool.and_eq_true_iff.mp (AI hg)).1
  split at h
  ·rename_i hgl
   unfold GD at h
   split at h
   ·rename_i hb
    revert h;refine Ai λ_ hk h=>?_
    revert h;refine Ai λa ha h=>?_
    obtain rfl:=E2 ha
    obtain rfl:=List.isEmpty_iff.mp (AI hk)
    exact(SE.built T hr hgl ho hb h).up (Nat.le_succ _)
   ·split at h
    ·exact SE.lent T hr hgl ho h
    ·split at h
     ·rename_i y xs hy
      refine Ak (Option.bind_eq_some_iff.mp hy) λa ha hy=>?_
      obtain⟨⟨qa,rfl⟩,hv⟩:=Nq hy
      cases args with
      |nil=>cases ha
      |cons b es=>
       (revert ha;refine As λc0=>?_;subst c0)
       exact SE.borrow T hr hgl ho hv h
     ·exact SE.plain T hr hgl ho h
  ·revert h;refine Ai λ_ hk h=>?_
   obtain rfl:=List.isEmpty_iff.mp (AI hk)
   exact SE.loc T hr h
 ·refine Ak (CP h) λBB hf h1=>?_;obtain⟨o,m,ap⟩:=BB
  refine AL h1 λ_ hg h2=>?_
  have he:=UN hf
  clear h h1
  subst he
  obtain⟨hg,g3⟩:=Bool.and_eq_true_iff.mp (AI hg)
  obtain⟨g1,g2⟩:=Bool.and_eq_true_iff.mp hg
  obtain rfl:=List.isEmpty_iff.mp g1
  clear hg hf
  have g3:=of_decide_eq_true g3
  cases o with
  |Attribute o fl bp=>
   by_cases hp:fl="pushback"
   ·subst hp
    exact(SE.pushMeth C hr g2 g3 h2).up (Nat.le_succ _)
   ·exact SE.read T C hr hp g2 g3 h2
  |Name x q=>
   have h':=h2
   revert h';refine Ai λo ho h'=>?_
   cases hl:o.lex? with
   |some l=>exact SE.lexMeth T C hr g2 g3 ho (by rw[hl];rfl) h2
   |none=>exact(SE.varMeth T hr g2 g3 (λo' DZ=>by rw[ho] at DZ;(revert DZ;refine As λc0=>?_;subst c0);exact hl) h2).up (Nat.le_succ _)
  |Constant k j q=>
   refine AL h2 λCo hv h3=>?_
   exact(SE.valMeth hr g2 g3 (λenv=>rfl) (Np hv) h3).up (Nat.le_succ _)
  |Call f' a' k' p'=>
   refine AL h2 λ_ RW h3=>?_
   refine BQ h3 λCo Aw hv h4=>?_
   obtain⟨q,hq⟩:=Option.isSome_iff_exists.mp (AI RW)
   exact(SE.valMeth hr g2 g3 (λenv=>eY hq) (hr.e _ _ _ _ _ hv) h4).up (Nat.le_succ _)
  |_=>
   exact Az h2
theorem SE.step(T:Bx c top)(C:ClsK w c top K)(hr:Bd prog w c n r)(h:IJ r top sc e ρ=some (v,ρ')):SE prog w c (n+1) sc e ρ v ρ':=by
 cases e with
 |Constant k q1 q2=>
  refine Ak (Fg h) λu hu e=>?_
  (revert e;refine FI λc0 c1=>?_;subst c0;subst c1)
  exact(Np hu).up (Nat.le_succ _)
 |Name x q1=>
  exact(SE.name h).up (Nat.le_succ _)
 |BinOp a op b q1=>
  exact(SE.bin (top:=top) hr h).up (Nat.le_succ _)
 |UnaryOp op a q1=>
  exact(SE.unary (top:=top) h).up (Nat.le_succ _)
 |Compare a EO cs q1=>
  revert h;refine Bv λb Aw hb h=>?_
  (revert h;refine AO λc1 c2=>?_;subst c1;subst c2)
  intro A env G s Q E hA Ag I k
  exact(Vk hr hb hA.lift Ag I).1 Q λG' s' N I'=>k _ _ _ N I' .bool
 |IfExp q1 a b q2=>
  exact(SE.ifexp (top:=top) hr h).up (Nat.le_succ _)
 |Call f args AT p=>
  exact SE.call T C hr h
 |Subscript v1 s q1=>
  exact(SE.sub hr h).up (Nat.le_succ _)
 |Tuple es q1 q2=>
  exact(SE.tuple (top:=top) hr h).up (Nat.le_succ _)
 |List es p=>
  revert h;refine Bv λvs Aw hv h=>?_
  (revert h;refine AO λc1 c2=>?_;subst c1;subst c2)
  exact(FE.fresh T hr hv).keep.up (Nat.le_succ _)
 |ListComp elt gs scope p=>
  revert h;refine Bv λvs Aw hv h=>?_
  (revert h;refine AO λc1 c2=>?_;subst c1;subst c2)
  exact(FE.fresh T hr hv).keep.up (Nat.le_succ _)
 |Attribute o f q=>
  have h':=h
  refine BQ h' λx l hx _=>?_
  obtain⟨⟨p,rfl⟩,_⟩:=HS (l:=l.1) (q:=l.2.1) (t:=l.2.2) hx
  exact(SE.attr (r:=r) (top:=top) C h).up (Nat.le_succ _)
 |_=>
  exact Az h
theorem ST.step(C:ClsK w c top K)(hr:Bd prog w c n r){b:Bool}(h:Rj r sc e ρ=some (b,ρ')):ST prog w c n sc e ρ b ρ':=by
 cases e with
 |BoolOp op vs q1=>
  exact ST.boolop hr h
 |Compare a EO cs q1=>
  intro A env G s Q E hA Ag I k
  exact(Vk hr h hA Ag I).2 _ Q k
 |Attribute o f q1=>
  exact ST.push (r:=r) C h
 |Name x q1=>
  revert h;refine Ai λv hv h=>?_
  revert h;refine Ai λxs hx h=>?_
  revert h;refine Ai λ_ hg h=>?_
  (revert h;refine AO λc1 c2=>?_;subst c1;subst c2)
  exact ST.ol hv hx (of_decide_eq_true (AI hg))
 |Call f args AT p=>
  revert h;refine Bv λv Aw hv h=>?_
  revert h;refine Ai λb' hb h=>?_
  (revert h;refine AO λc1 c2=>?_;subst c1;subst c2)
  exact ST.bool hr ⟨v,hv,hb⟩ λenv=>rfl
 |_=>
  exact Az h
end
section
variable {m:Nat} {K:Frag} {W:Nat}
theorem WQ(h:Ox e=true){t:Option PySem.Expr}(ht:∃x p,t=some (.Name x p)){l:Nat}:swapsWith e t l env=pure false:=by
 revert ht;refine oX λx p Ar=>?_;obtain rfl:=Ar
 cases e<;>first|rfl|exact Ck h
theorem nL{f:Str}(h:Ou sc e=some (f,args)):∃q p,e=.Call (.Name f q) args [] p/\BV sc f=true:=by
 refine Ak (CP h) λBB hc h1=>?_;obtain⟨fe,a,AT,p⟩:=BB
 refine AL h1 λx hx h2=>?_
 refine AL h2 λ_ hg h3=>?_
 (revert h3;refine AO λc1 c2=>?_;subst c1;subst c2)
 obtain⟨g1,g2⟩:=Bool.and_eq_true_iff.mp (AI hg)
 obtain⟨q,rfl⟩:=EB hx
 obtain rfl:=List.isEmpty_iff.mp g2
 refine⟨q,p,?_,g1⟩
 exact(FD hc:)
set_option tactic.hygienic true in
theorem SX.assign(T:Bx c top)(C:ClsK w c top K)(hr:Bd prog w c n r){v:PySem.Expr}(h:Q7 r sc ts v ρ=some ρ'):SX prog w c n sc (.Assign ts v pos) ρ .next ρ':=by
 refine AL h λt ht h1=>?_
 obtain rfl:=E2 ht
 split at h1
 ·rename_i x hx
  obtain⟨p,rfl⟩:=EB hx
  unfold GA at h1
  split at h1
  ·rename_i hm
   refine BQ h1 λxs Aw Cn h2=>?_
   exact SX.make T hr hm Cn h2
  ·rename_i hm
   have hm:Ih v=false:=by simpa using hm
   split at h1
   ·rename_i f args hgc
    refine Dc (nL hgc) λq cp hv hg=>?_
    split at h1
    ·rename_i hf
     refine AL h1 λa ha h2=>?_
     refine AL h2 λ_ hn h3=>?_
     refine BQ h3 λu Aw hu h4=>?_
     refine AL h4 λtx s8 h5=>?_
     refine AL h5 λ_ Sf h6=>?_
     obtain⟨g1,g2⟩:=of_decide_eq_true (AI Sf)
     have ha:=E2 ha
     subst hv hf ha
     exact SX.lexer T C hr hg (AI hn) hu s8 (Option.isNone_iff_eq_none.mp g1) g2 h6
    ·split at h1
     ·rename_i hf
      refine AL h1 λu hu h2=>?_
      refine AL h2 λ_ hn h3=>?_
      subst hv hf
      exact SX.iter T C hg hu (Option.isNone_iff_eq_none.mp (AI hn)) h3
     ·refine AL h1 λ_ hn h2=>?_
      refine BQ h2 λu Aw hu h3=>?_
      exact SX.set hr hm hu h3 λenv=>WQ (AI hn) ⟨_,_,rfl⟩
   ·refine AL h1 λ_ hn h2=>?_
    refine BQ h2 λu Aw hu h3=>?_
    exact SX.set hr hm hu h3 λenv=>WQ (AI hn) ⟨_,_,rfl⟩
 ·rename_i hn
  refine AL h1 λ_ hc h2=>?_
  refine BQ h2 λu Aw hu h3=>?_
  exact SX.tup hr hn (AI hc) hu h3
set_option tactic.hygienic true in
theorem SX.augs(C:ClsK w c top K)(hr:Bd prog w c n r){v:PySem.Expr}(h:Qx r sc t op v ρ=some ρ'):SX prog w c n sc (.AugAssign t op v pos) ρ .next ρ':=by
 unfold Qx at h
 split at h
 ·rename_i x hx
  obtain⟨p,rfl⟩:=EB hx
  refine AL h λold h1 h2=>?_
  refine BQ h2 λu Aw h3 h4=>?_
  refine AL h4 λu' h5 h6=>?_
  exact SX.aug hr h1 h3 h5 h6
 ·refine Ak (CP h) λBB h1 h2=>?_;obtain⟨o,f,p⟩:=BB
  refine Ak (CP h2) λBB h3 h4=>?_;obtain⟨x,l,q,tt⟩:=BB
  refine AL h4 λ_ h5 h6=>?_
  refine AL h6 λu h7 h8=>?_
  refine AL h8 λMq h9 RZ=>?_
  refine AL RZ λu' Rw R2=>?_
  refine AL R2 λl' Rt RA=>?_
  (revert RA;refine As λc0=>?_;subst c0)
  have e:=UN h1
  subst e
  exact SX.augLine C h3 (of_decide_eq_true (AI h5)) h7 h9 Rw Rt
set_option tactic.hygienic true in
theorem SX.loop(T:Bx c top)(C:ClsK w c top K)(hr:Bd prog w c n r){i:PySem.Expr}{f:Fl}(h:QY r top W sc t i b ρ=some (f,ρ')):SX prog w c (n+2) sc (.For t i b [] pos) ρ f ρ':=by
 unfold QY at h
 split at h
 ·rename_i fx x hn
  exact SX.cit T C hr hn h
 ·unfold TH at h
  split at h
  ·rename_i x a hf
   refine AL h λ_ ht h1=>?_
   refine BQ h1 λits Aw hi h2=>?_
   obtain⟨ts,hts⟩:=Option.isSome_iff_exists.mp (AI ht)
   refine EU (QP hts) λk p e1=>?_
   refine Fe (i9 hf) λpf cp e2 hg hx ha=>?_
   rcases hx with hx|hx
   ·subst e1 e2 hx
    exact(SX.enum T hr hg ha hi h2).up (Nat.le_add_right _ _)
   ·subst e1 e2 hx
    exact(SX.gen T C hr hg ha hi h2).up (Nat.le_add_right _ _)
  ·refine BQ h λits Aw hi h2=>?_
   exact(SX.forIn T hr hi h2).up (Nat.le_add_right _ _)
theorem SX.step(T:Bx c top)(C:ClsK w c top K)(hr:Bd prog w c n r){st:Stmt}{f:Fl}(h:AQ r top W sc st ρ=some (f,ρ')):SX prog w c (n+2) sc st ρ f ρ':=by
 cases st with
 |Expr v q1=>
  refine AL h λ_ hc h1=>?_
  refine BQ h1 λv Aw hv h2=>?_
  (revert h2;refine AO λc1 c2=>?_;subst c1;subst c2)
  exact(SX.expr hr (AI hc) hv).up (Nat.le_add_right _ _)
 |Continue q1=>
  (revert h;refine AO λc1 c2=>?_;subst c1;subst c2)
  exact SX.cont
 |Return e0 q1=>
  refine AL h λe he h1=>?_
  refine BQ h1 λv Aw hv h2=>?_
  (revert h2;refine AO λc1 c2=>?_;subst c1;subst c2)
  subst he
  exact(SX.ret hr hv).up (Nat.le_add_right _ _)
 |Assign ts v q1=>
  refine AL h λAw h1 h2=>?_
  (revert h2;refine AO λc1 c2=>?_;subst c1;subst c2)
  exact(SX.assign T C hr h1).up (Nat.le_add_right _ _)
 |AugAssign t0 op v q1=>
  refine AL h λAw h1 h2=>?_
  (revert h2;refine AO λc1 c2=>?_;subst c1;subst c2)
  exact(SX.augs C hr h1).up (Nat.le_add_right _ _)
 |If t0 b o q1=>
  refine BQ h λx Aw hx h1=>?_
  exact(SX.iff hr hx h1).up (Nat.le_add_right _ _)
 |While t0 b o q1=>
  refine AL h λ_ ho h1=>?_
  have ho:=List.isEmpty_iff.mp (AI ho)
  subst ho
  exact(SX.whl hr h1).up (Nat.le_add_right _ _)
 |For t0 i b o q1=>
  refine AL h λ_ ho h1=>?_
  have ho:=List.isEmpty_iff.mp (AI ho)
  subst ho
  exact SX.loop T C hr h1
 |_=>
  exact Az h
theorem SS.step(T:Bx c top)(C:ClsK w c top K)(hr:Bd prog w c n r):∀{b:List Stmt} {ρ ρ':R} {f:Fl},Hh r top W sc b ρ=some (f,ρ')->SS prog w c (n+2) sc b ρ f ρ':=by
 intro Al
 induction Al with
 |nil=>
  intro _ _ _ h
  (revert h;refine AO λc1 c2=>?_;subst c1;subst c2)
  intro A env G s Q E hA Ag I k
  exact wpAny_execs_nil (k _ _ _ (.refl ..) I trivial)
 |cons st b zih=>
  intro ρ ρ' f h
  refine BQ h λOF Aw h1 h2=>?_
  intro A env G s Q E hA Ag I k
  refine wpAny_execs_cons (SX.step T C hr h1 A env G s _ _ hA Ag I λAv Ad f' Au An F=>?_)
  cases OF with
  |next=>
   cases f' with
   |next=>exact zih h2 A env Av Ad _ _ hA Ag An λAY A4 sC A8 Ax tB=>k _ _ _ (Au.trans A8) Ax tB
   |_=>exact F.elim
  |cont=>
   (revert h2;refine AO λc1 c2=>?_;subst c1;subst c2)
   cases f' with
   |cont=>exact k _ _ _ Au An F
   |_=>exact F.elim
  |ret v=>
   (revert h2;refine AO λc1 c2=>?_;subst c1;subst c2)
   cases f' with
   |ret v'=>exact k _ _ _ Au An F
   |_=>exact F.elim
theorem Y4(T:Bx c top)(C:ClsK w c top K):∀k,Bd prog w c (2*k) (A1 top W k):=by
 intro Al
 induction Al with
 |zero=>
  exact⟨λ_ _ _ _ _ h=>(nomatch h),λ_ _ _ _ _ h=>(nomatch h),λ_ _ _ _ _ h=>(nomatch h)⟩
 |succ k zih=>
  have ih:=zih
  exact⟨λsc e ρ v ρ' h=>(SE.step T C ih h).up (by exact Ah 0x14c2154120141221501 Aa),λsc e ρ b ρ' h=>(ST.step C ih h).up (by exact Ah 0x14c2154120121501 Aa),λsc b ρ f ρ' h=>SS.step T C ih h⟩
end
end
set_option backward.match.sparseCases false
section
variable {n k W t u h j m par:Nat} {P:Nat->Prop} {b:Bool} {r:Ev} {top:List Stmt} {sc:Scope} {ρ ρ1 AD Hf C3 ρ':R} {e a elt:PySem.Expr} {ap q1 qn:Pos} {CJ:Option (Fl×R)} {x y:Str} {xs ys vs q' zs res its rest D L' kl:List AV} {α:Type} {hi CS:Option PySem.Expr} {l z s' op L A O z1 z2 y2 y1 κ κs Dh w':List Nat} {args es ifs as:List PySem.Expr} {AT:List Keyword} {ks tl:List (Str×AV)} {ts c0 c1 c2 c4 c5 q2:List Str} {body:AV->R->Option (Fl×R)} {g:List (Str×Nat)} {d:BG} {bs:List (Bool×List (List Nat))} {pa:Arg} {ws:List (Nat×Nat)} {gs:List Comprehension} {go:List AV->R->Option (List AV×R)} {At:R->Prop} {ns T:List Int} {us row:List (List Nat)} {o l' i:Int} {test:R->Option (Bool×R)} {B:List (Nat×Str)} {s:List Nat×List Nat} {sh:Str->Bool} {cm cs:List (List Str)} {rd:R->Option (AV×R)} {H lx' told rows come kinds ahead due left pairs text whole:AV} {hs:List Hr} {ds:List Hx} {ss:List ((Nat->Bool)×(Nat->Bool)×Nat)} {f':Nat->Nat}
theorem Dr(h:k<n->P k)(p:P n)(hk:k<n+1):P k:=(Nat.lt_succ_iff_lt_or_eq.mp hk).elim h λe=>e▸p
@[elab_as_elim] theorem W6(h0:P 0)(h1:P 1)(h2:P 2)(hk:k<3):P k:=(Dr (Dr (Dr (λq=>absurd q (Nat.not_lt_zero k)) h0) h1) h2) hk
@[elab_as_elim] theorem IG(h0:P 0)(h1:P 1)(h2:P 2)(h3:P 3)(hk:k<4):P k:=(Dr (Dr (Dr (Dr (λq=>absurd q (Nat.not_lt_zero k)) h0) h1) h2) h3) hk
@[elab_as_elim] theorem Jg(h0:P 0)(h1:P 1)(h2:P 2)(h3:P 3)(h4:P 4)(h5:P 5)(hk:k<6):P k:=(Dr (Dr (Dr (Dr (Dr (Dr (λq=>absurd q (Nat.not_lt_zero k)) h0) h1) h2) h3) h4) h5) hk
@[elab_as_elim] theorem cL(h0:P 0)(h1:P 1)(h2:P 2)(h3:P 3)(h4:P 4)(h5:P 5)(h6:P 6)(hk:k<7):P k:=(Dr (Dr (Dr (Dr (Dr (Dr (Dr (λq=>absurd q (Nat.not_lt_zero k)) h0) h1) h2) h3) h4) h5) h6) hk
noncomputable abbrev tp:List Stmt:=PySem.Challenge.pw_sc0059_01.main.body
noncomputable def defAt:List Stmt->Nat->BG
 |[],_=>⟨default,[],default⟩
 |.FunctionDef _ ps body _ _ _ sc _ _ _::_,0=>⟨ps,body,sc⟩
 |.FunctionDef .. ::r,k+1=>defAt r k
 |_::r,k=>defAt r k
noncomputable abbrev E(W n:Nat):Ev:=A1 tp W n
noncomputable def EG:BG:=defAt tp 1
noncomputable def K6:BG:=defAt tp 2
theorem Xa:B4 tp "_strip_quoted_realnames"=some EG:=by with_unfolding_all rfl
theorem Q9:B4 tp "_check_parenthesis"=some K6:=by with_unfolding_all rfl
noncomputable def at'(l:List Stmt)(k:Nat):Stmt:=l.getD k (.Continue default)
noncomputable def AB:Stmt->List Stmt
 |.For _ _ b _ _=>b
 |.While _ b _ _=>b
 |_=>[]
noncomputable def BD:Stmt->PySem.Expr
 |.For t _ _ _ _=>t
 |.While t _ _ _=>t
 |_=>default
noncomputable def Kh:Stmt->PySem.Expr
 |.While t _ _ _=>t
 |_=>default
theorem AF(h:b=true):AG b=some ():=by rw[h];rfl
section
variable {st:Stmt} {ss b o:List Stmt} {t i:PySem.Expr} {p q p2:Pos} {f:Fl} {v u:AV} {m:Str}
theorem Ab{β:Type}{a:Option α}{x:α}{f:α->Option β}{y:Option β}(h:a=some x)(k:f x=y):(a>>= f)=y:=by rw[h];exact k
theorem A3(h:AQ r top W sc st ρ=some (f,ρ1)):Hh r top W sc [st] ρ=some (f,ρ1):=by
 refine Ab h ?_
 cases f<;>rfl
theorem Aq(h:AQ r top W sc st ρ=some (.next,ρ1))(k:Hh r top W sc ss ρ1=CJ):Hh r top W sc (st::ss) ρ=CJ:=Ab h k
theorem IN(h:AQ r top W sc st ρ=some (.ret v,ρ1)):Hh r top W sc (st::ss) ρ=some (.ret v,ρ1):=Ab h rfl
theorem Wh(h:AQ r top W sc st ρ=some (.cont,ρ1)):Hh r top W sc (st::ss) ρ=some (.cont,ρ1):=Ab h rfl
theorem B3(h:r.t sc t ρ=some (true,ρ1))(k:r.ss sc b ρ1=CJ):AQ r top W sc (.If t b o p) ρ=CJ:=Ab h k
theorem AZ(h:r.t sc t ρ=some (false,ρ1))(k:r.ss sc o ρ1=CJ):AQ r top W sc (.If t b o p) ρ=CJ:=Ab h k
theorem Br{c d:Bool}(h:c=d)(k:r.t sc t ρ=some (c,ρ1)):r.t sc t ρ=some (d,ρ1):=h▸k
theorem turn(h:BS sc t v ρ=some ρ1)(k:r.ss sc b ρ1=CJ):forTurn r sc t b v ρ=CJ:=Ab h k
theorem CB(h:r.e sc e ρ=some (v,ρ1)):AQ r top W sc (.Return (some e) p) ρ=some (.ret v,ρ1):=Ab (x:=e) rfl (Ab h rfl)
theorem LO(h:Q7 r sc [t] e ρ=some ρ1):AQ r top W sc (.Assign [t] e p) ρ=some (.next,ρ1):=Ab h rfl
theorem DM(h:BY (A1 top W n) sc es ρ=some (vs,ρ1))(hx:Ca sc x ρ=some (.ol xs))(FW:ρ1.get x=some (.ol ys))(hm:Gd m ys vs=some (u,zs))(hs:(([]:List Keyword).isEmpty&&ap.endLine==p.line&&decide (es.length<=5))=true)(he:ρ1.set x (.ol zs)=AD):
 AQ (A1 top W (n+1)) top W sc (.Expr (.Call (.Attribute (.Name x q) m ap) es [] p) p2) ρ=some (.next,AD):=by
 subst he
 refine Ab (AF rfl) (Ab (x:=(u,ρ1.set x (.ol zs))) ?_ rfl)
 show Dd (A1 top W n) top sc (.Attribute (.Name x q) m ap) es [] p ρ=_
 refine Ab (x:=(.Name x q,m,ap)) rfl (Ab (AF hs) ?_)
 show I3 (A1 top W n) top sc x m es ρ=_
 refine Ab hx ?_
 show((BY (A1 top W n) sc es ρ)>>= _)=_
 exact Ab h (Ab FW (Ab (x:=ys) rfl (Ab hm rfl)))
theorem FF(h:xs.length<Bg):Gd "append" xs [v]=some (.none,xs++[v]):=Ab (AF (decide_eq_true h)) rfl
theorem JL:BY r sc [] ρ=some ([],ρ):=rfl
theorem B7(h:r.e sc e ρ=some (v,ρ1))(k:BY r sc es ρ1=some (vs,AD))(g:BI e=true):BY r sc (e::es) ρ=some (v::vs,AD):=Ab (AF g) (Ab h (Ab k rfl))
theorem Bp(h:r.e sc e ρ=some (v,ρ1))(g:BI e=true):BY r sc [e] ρ=some ([v],ρ1):=B7 h JL g
theorem Dm{lo:Option PySem.Expr}{l h k:Option Int}{w:PySem.Expr}(h1:Cs sc w ρ=none)(h2:(A1 top W n).e sc w ρ=some (v,ρ1))(h3:Kj (A1 top W n) sc lo hi CS ρ1=some ((l,h,k),AD))(h4:D5 v l h k=some u):
 (A1 top W (n+1)).e sc (.Subscript w (.Slice lo hi CS q) p) ρ=some (u,AD):=by
 show(match Cs sc w ρ with|some (x,_)=>_|none=>_)=_
 rw[h1]
 exact Ab h2 (Ab h3 (Ab h4 rfl))
theorem B1{z:PySem.Expr}{op:CmpOp}{y:AV}{c:Bool}(h1:Ji sc a ρ=none)(h2:(A1 top W n).e sc a ρ=some (v,ρ1))(h3:(A1 top W n).e sc z ρ1=some (y,AD))(h4:Du op v y=some c)(h5:(!behindInMarks op z)=true):
 (A1 top W (n+1)).t sc (.Compare a [op] [z] p) ρ=some (c,AD):=by
 refine Ab (x:=op) rfl (Ab (x:=z) rfl (Ab (AF h5) ?_))
 show(match Ji sc a ρ with|some _=>_|none=>_)=_
 rw[h1]
 exact Ab h2 (Ab h3 (Ab h4 rfl))
theorem Dn(h1:Cs sc a ρ=none)(h2:(A1 top W n).e sc a ρ=some (v,ρ1))(h3:Re v=some k)(hk:k<=Bg)(g:BI a=true)(hg:BV sc "len"=true):
 (A1 top W (n+1)).e sc (.Call (.Name "len" q) [a] [] p) ρ=some (.int k,ρ1):=by
 show Dd (A1 top W n) top sc (.Name "len" q) [a] [] p ρ=_
 refine Ab (AF rfl) ?_
 show(if BV sc "len"=true then GD (A1 top W n) top sc "len" [a] [] ρ else _)=_
 rw[if_pos hg]
 show Jc (A1 top W n) sc "len" a ρ=_
 show(match Cs sc a ρ with|some (_,xs)=>_|none=>_)=_
 rw[h1]
 exact Ab (AF g) (Ab h2 (Ab h3 (Ab (AF (decide_eq_true hk)) rfl)))
theorem Dp{f:Str}(h1:BY (A1 top W n) sc args ρ=some (vs,ρ1))(h2:GU (A1 top W n) sc AT ρ1=some (ks,AD))(h3:BL (A1 top W n) top f vs ks=some (u,Hf))(h4:args.head?.bind (λa=>Cs sc a ρ)=none)
 (g:(!DI f&&decide (args.length+2*AT.length<=20))=true) (g1:BV sc f=true) (g2:Jn f=false) (g3:L1 f=false) (g4:(!args.isEmpty)=true):
 (A1 top W (n+1)).e sc (.Call (.Name f q) args AT p) ρ=some (u,AD):=by
 show Dd (A1 top W n) top sc (.Name f q) args AT p ρ=_
 refine Ab (AF g) ?_
 rw[if_pos g1]
 unfold GD
 rw[g2,if_neg Bool.false_ne_true,g3,if_neg Bool.false_ne_true,h4]
 exact Ab (AF g4) (Ab h1 (Ab h2 (Ab h3 rfl)))
theorem Lc{k:Const}{q':Pos}(h0:Ge k=some (.str ⟨#[]⟩))(h1:(A1 top W n).e sc a ρ=some (.list xs,ρ1))(h2:HM xs=some ts)(h3:(ts.map Str.length).sum<=Bg)(g:BI a=true)(hs:(([]:List Keyword).isEmpty&&ap.endLine==p.line&&decide (([a]:List PySem.Expr).length<=5))=true):
 (A1 top W (n+1)).e sc (.Call (.Attribute (.Constant k j q') "join" ap) [a] [] p) ρ=some (.str (Txt.join ⟨#[]⟩ ts),ρ1):=by
 show Dd (A1 top W n) top sc (.Attribute (.Constant k j q') "join" ap) [a] [] p ρ=_
 refine Ab (x:=((PySem.Expr.Constant k j q',"join",ap):PySem.Expr×Str×Pos)) rfl (Ab (AF hs) ?_)
 show(Ge k>>= λv=>valMeth (A1 top W n) sc "join" v [a] ρ)=_
 refine Ab h0 ?_
 refine Ab (Bp h1 g) (Ab (x:=.str (Txt.join ⟨#[]⟩ ts)) ?_ rfl)
 exact Ab (AF rfl) (Ab (x:=.list xs) rfl (Ab (x:=xs) rfl (Ab h2 (Ab (AF (decide_eq_true h3)) rfl))))
noncomputable def U0(sc:Scope)(v:PySem.Expr):Bool:= !Ih v&&Ox v&&(match Ou sc v with|some (f,_)=> !(f=="_law_lexer")&& !(f=="iter")|none=>true)
set_option tactic.hygienic true in
theorem BK(h:r.e sc e ρ=some (u,ρ1))(hb:Cy sc x u ρ1=some AD)(g:U0 sc e=true):AQ r top W sc (.Assign [.Name x q] e p) ρ=some (.next,AD):=by
 refine LO (Ab (x:=.Name x q) rfl ?_)
 show GA r sc x e ρ=_
 unfold U0 at g
 obtain⟨g,g3⟩:=Bool.and_eq_true_iff.mp g
 obtain⟨g1,g2⟩:=Bool.and_eq_true_iff.mp g
 unfold GA
 rw[if_neg (by simpa using g1)]
 split
 ·rename_i f args hf
  rw[hf] at g3
  obtain⟨g4,g5⟩:=Bool.and_eq_true_iff.mp g3
  rw[if_neg (by simpa using g4),if_neg (by simpa using g5)]
  exact Ab (AF g2) (Ab h hb)
 ·exact Ab (AF g2) (Ab h hb)
theorem BH(h:body v ρ=some (.next,ρ1))(k:BP body vs ρ1=CJ):BP body (v::vs) ρ=CJ:=Ab h k
theorem eT(h:body v ρ=some (.ret u,ρ1)):BP body (v::vs) ρ=some (.ret u,ρ1):=Ab h rfl
theorem Ki(h:GQ (r.t sc t) (r.ss sc b) W ρ=some (f,ρ1)):AQ r top W sc (.While t b [] p) ρ=some (f,ρ1):=Ab (AF rfl) h
theorem BM{z:PySem.Expr}{i:AV}(h1:Cs sc a ρ=none)(h2:(A1 top W n).e sc a ρ=some (v,ρ1))(h3:(A1 top W n).e sc z ρ1=some (i,AD))(h4:El v i=some u)(g1:Lk z=none)(g2:BI z=true):(A1 top W (n+1)).e sc (.Subscript a z p) ρ=some (u,AD):=by
 show(match Cs sc a ρ with|some (x,_)=>_|none=>_)=_
 rw[h1]
 show(match Lk z with|some (lo,hi,CS)=>_|none=>_)=_
 rw[g1]
 exact Ab (AF g2) (Ab h2 (Ab h3 (Ab h4 rfl)))
theorem DW(h:xs[k]? =some v)(hk:k<100000):El (.list xs) (.int k)=some v:=Ab (x:=(k:Int)) rfl (Ab (AF (decide_eq_true (by exact⟨Ah 0x10c70102 Aa,Ah 0x12c186a05370116a186a05301 Aa hk⟩))) h)
theorem K8{f:Str}{g:AV}(h0:Ca sc f ρ=some g)(h1:BY (A1 top W n) sc args ρ=some (vs,ρ1))(h2:Fn (A1 top W n) g vs=some u)(g1:(!DI f&&decide (args.length+2*0<=20))=true)(g2:BV sc f=false)(g3:(!args.isEmpty)=true):
 (A1 top W (n+1)).e sc (.Call (.Name f q) args [] p) ρ=some (u,ρ1):=by
 show Dd (A1 top W n) top sc (.Name f q) args [] p ρ=_
 refine Ab (AF g1) ?_
 rw[g2,if_neg Bool.false_ne_true]
 refine Ab (AF rfl) ?_
 exact Ab h0 (Ab (AF g3) (Ab h1 (Ab h2 rfl)))
theorem DN(h:Ca sc x ρ=some v)(h1:v.ol?=none)(h2:v.free=true):(A1 top W (n+1)).e sc (.Name x p) ρ=some (v,ρ):=by
 refine Ab h ?_
 show(match v.ol? with|some xs=>_|none=>_)=_
 rw[h1]
 exact if_pos h2
theorem L3{f:Str}(h0:Cs sc a ρ=some (y,zs))(h1:BY (A1 top W n) sc args ρ=some (vs,ρ1))(h2:GU (A1 top W n) sc AT ρ1=some (ks,AD))(h3:AD.get y=some (.ol xs))(h4:BL (A1 top W n) top f (.list xs::vs) ks=some (u,Hf))(h5:u.flat=true)
 (g:(!DI f&&decide ((a::args).length+2*AT.length<=20))=true) (g1:BV sc f=true) (g2:Jn f=false) (g3:L1 f=false):
 (A1 top W (n+1)).e sc (.Call (.Name f q) (a::args) AT p) ρ=some (u,AD):=by
 show Dd (A1 top W n) top sc (.Name f q) (a::args) AT p ρ=_
 refine Ab (AF g) ?_
 rw[if_pos g1]
 unfold GD
 rw[g2,if_neg Bool.false_ne_true,g3,if_neg Bool.false_ne_true]
 show(match Cs sc a ρ with|some (x,_)=>_|none=>_)=_
 rw[h0]
 exact Ab h1 (Ab h2 (Ab h3 (Ab (x:=xs) rfl (Ab h4 (Ab (AF h5) rfl)))))
theorem Og{f:Str}{OM:R}(h0:Cs sc a ρ=some (y,zs))(hd:B4 top f=some d)(h1:BY (A1 top W n) sc args ρ=some (vs,ρ1))(h2:GU (A1 top W n) sc AT ρ1=some (ks,AD))(h3:Oi (A1 top W n) d y vs ks AD=some (u,Hf))
 (g:(!DI f&&decide ((a::args).length+2*AT.length<=20))=true) (g1:BV sc f=true) (g2:Jn f=false) (g3:L1 f=true) (he:Hf=OM):
 (A1 top W (n+1)).e sc (.Call (.Name f q) (a::args) AT p) ρ=some (u,OM):=by
 subst he
 show Dd (A1 top W n) top sc (.Name f q) (a::args) AT p ρ=_
 refine Ab (AF g) ?_
 rw[if_pos g1]
 unfold GD
 rw[g2,if_neg Bool.false_ne_true,if_pos g3]
 refine Ab hd ?_
 show(match Cs sc a ρ with|some (x,_)=>_|none=>_)=_
 rw[h0]
 exact Ab h1 (Ab h2 h3)
theorem Nk(h:xs.length<Bg)(hk:k<=xs.length):Gd "insert" xs [.int k,v]=some (.none,xs.take k++v::xs.drop k):=by
 refine Ab (AF (decide_eq_true h)) ?_
 rw[if_neg (by decide),if_neg (by decide)]
 exact Ab (AF rfl) (Ab (x:=(.int k,v)) rfl (Ab (x:=(k:Int)) rfl (Ab (AF (decide_eq_true (by exact⟨Ah 0x10c70102 Aa,Ac 0x10c71170114a1101 Aa hk⟩))) rfl)))
theorem MY(h:r.e sc e ρ=some (v,ρ1))(g:(G3 e).isSome=true):AQ r top W sc (.Expr e p) ρ=some (.next,ρ1):=Ab (AF g) (Ab h rfl)
theorem NN{bs:List (Str×AV)}(h:ρ.get x=some (.ol xs))(hr:BZ r d bs=some (u,C3))(hi:C3.get "a"=some (.ol zs))(hb:D9 d.ps (.ol xs::vs) ks=some bs)(hp:d.ps.args.head?=some pa)(he:pa.arg="a"):Oi r d x vs ks ρ=some (u,ρ.set x (.ol zs)):=
 Ab h (Ab (x:=xs) rfl (Ab hp (Ab hb (Ab hr (Ab (x:=ρ.set x (.ol zs)) (Ab (he▸hi) (Ab (x:=zs) rfl rfl)) rfl)))))
theorem Cr(h:r.e sc e ρ=some (.list xs,ρ1))(g:BI e=true)(g1:QB sc e=none):Gq r sc e ρ=some (xs,ρ1):=by
 show(match QB sc e with|some args=>_|none=>_)=_
 rw[g1]
 exact Ab (AF g) (Ab h rfl)
theorem iH(h:BY (A1 top W n) sc es ρ=some (vs,ρ1))(hx:Ca sc x ρ=some (.ol xs))(FW:ρ1.get x=some (.ol ys))(hm:Gd m ys vs=some (u,zs))(hs:(([]:List Keyword).isEmpty&&ap.endLine==p.line&&decide (es.length<=5))=true)(he:ρ1.set x (.ol zs)=AD):
 (A1 top W (n+1)).e sc (.Call (.Attribute (.Name x q) m ap) es [] p) ρ=some (u,AD):=by
 subst he
 show Dd (A1 top W n) top sc (.Attribute (.Name x q) m ap) es [] p ρ=_
 refine Ab (x:=(.Name x q,m,ap)) rfl (Ab (AF hs) ?_)
 show I3 (A1 top W n) top sc x m es ρ=_
 refine Ab hx ?_
 show((BY (A1 top W n) sc es ρ)>>= _)=_
 exact Ab h (Ab FW (Ab (x:=ys) rfl (Ab hm rfl)))
theorem Vl(h:(v::xs).length<Bg):Gd "pop" (v::xs) [.int 0]=some (v,xs):=Ab (AF (decide_eq_true h)) rfl
theorem PK{z:PySem.Expr}{c:Bool}{res:Option (AV×R)}(h:(A1 top W n).t sc t ρ=some (c,ρ1))(k:(if c=true then(A1 top W n).e sc a ρ1 else(A1 top W n).e sc z ρ1)=res):(A1 top W (n+1)).e sc (.IfExp t a z p) ρ=res:=Ab h k
theorem Pg{z:PySem.Expr}{c:Bool}{res:Option (Bool×R)}(h:(A1 top W n).t sc a ρ=some (c,ρ1))(k:(if c=true then(A1 top W n).t sc z ρ1 else some (false,ρ1))=res):(A1 top W (n+1)).t sc (.BoolOp .And [a,z] p) ρ=res:=Ab (x:=(a,z)) rfl (Ab h k)
theorem Lj{z:PySem.Expr}{c:Bool}{res:Option (Bool×R)}(h:(A1 top W n).t sc a ρ=some (c,ρ1))(k:(if c=true then some (true,ρ1) else(A1 top W n).t sc z ρ1)=res):(A1 top W (n+1)).t sc (.BoolOp .Or [a,z] p) ρ=res:=Ab (x:=(a,z)) rfl (Ab h k)
theorem aZ(h:Ca sc x ρ=some (.ol xs))(hl:xs.length<=Bg):(A1 top W (n+1)).t sc (.Name x p) ρ=some (!xs.isEmpty,ρ):=Ab h (Ab (x:=xs) rfl (Ab (AF (decide_eq_true hl)) rfl))
theorem H0{s':List AV}{l:Int}(hx:Ca sc x ρ=some (.lex l q' s'))(h:BY (A1 top W n) sc es ρ=some (vs,ρ1))(hd:B4 (CW top) m=some d)(hc:Ho (A1 top W n) d x vs [] ρ1=some (u,AD))(hs:(([]:List Keyword).isEmpty&&ap.endLine==p.line&&decide (es.length<=5))=true):
 (A1 top W (n+1)).e sc (.Call (.Attribute (.Name x q) m ap) es [] p) ρ=some (u,AD):=by
 show Dd (A1 top W n) top sc (.Attribute (.Name x q) m ap) es [] p ρ=_
 refine Ab (x:=(.Name x q,m,ap)) rfl (Ab (AF hs) ?_)
 show I3 (A1 top W n) top sc x m es ρ=_
 refine Ab hx ?_
 show((BY (A1 top W n) sc es ρ)>>= _)=_
 exact Ab h (Ab hd hc)
theorem Mc{op:Operator}{old w:AV}(h0:Ca sc x ρ=some old)(h:r.e sc e ρ=some (w,ρ1))(ha:Gy op old w=some u)(hb:Cy sc x u ρ1=some AD):AQ r top W sc (.AugAssign (.Name x q) op e p) ρ=some (.next,AD):=by
 refine Ab (x:=AD) ?_ rfl
 exact Ab h0 (Ab h (Ab ha hb))
theorem QD{a b:Str}(h:a.length+b.length<=Bg):Gy .Add (.str a) (.str b)=some (.str (a++b)):=Ab (x:=b) rfl (Ab (AF (decide_eq_true h)) rfl)
theorem Jm{f:Str}(h1:Ik sc t i ρ=some (f,x))(h2:DA f (Ix r top sc) (Kp r sc x b) W ρ=CJ):AQ r top W sc (.For t i b [] p) ρ=CJ:=by
 refine Ab (AF rfl) ?_
 show(match Ik sc t i ρ with|some (f,x)=>_|none=>_)=_
 rw[h1]
 exact h2
theorem iR{l:Int}{s':List AV}(hx:Ca sc x ρ=some (.lex l q' s'))(h:q'.length<=Bg):(A1 top W (n+1)).t sc (.Attribute (.Name x q) "pushback" p) ρ=some (!q'.isEmpty,ρ):=by
 refine Ab (x:=(x,l,q',s')) (Ab (x:=x) rfl (Ab hx rfl)) ?_
 exact Ab (AF (decide_eq_true ⟨rfl,h⟩)) rfl
theorem TK{XK s':List AV}{l:Int}(hx:Ca sc x ρ=some (.lex l q' s'))(h:BY (A1 top W n) sc es ρ=some (vs,ρ1))(hg:ρ1.get x=some (.lex l q' s'))(hm:Gd m q' vs=some (u,XK))(hs:(([]:List Keyword).isEmpty&&ap.endLine==p.line&&decide (es.length<=5))=true)(he:ρ1.set x (.lex l XK s')=AD):
 (A1 top W (n+1)).e sc (.Call (.Attribute (.Attribute (.Name x q) "pushback" q1) m ap) es [] p) ρ=some (u,AD):=by
 subst he
 show Dd (A1 top W n) top sc (.Attribute (.Attribute (.Name x q) "pushback" q1) m ap) es [] p ρ=_
 refine Ab (x:=((PySem.Expr.Attribute (.Name x q) "pushback" q1,m,ap):PySem.Expr×Str×Pos)) rfl (Ab (AF hs) ?_)
 show L9 (A1 top W n) top sc (.Name x q) "pushback" m es ρ=_
 refine Ab (x:=(x,l,q',s')) (Ab (x:=x) rfl (Ab hx rfl)) (Ab h (Ab hg (Ab (x:=(l,q',s')) rfl ?_)))
 exact(if_pos rfl).trans (Ab hm rfl)
theorem IH{f:Str}{s':List AV}{l:Int}(h0:Cs sc a ρ=none)(RP:Hl sc a ρ=some (y,l,q',s'))(hd:B4 top f=some d)(h1:BY (A1 top W n) sc args ρ=some (vs,ρ1))(h2:GU (A1 top W n) sc AT ρ1=some (ks,AD))(h3:Ho (A1 top W n) d y vs ks AD=some (u,Hf))
 (g:(!DI f&&decide ((a::args).length+2*AT.length<=20))=true) (g1:BV sc f=true) (g2:Jn f=false) (g3:L1 f=true):
 (A1 top W (n+1)).e sc (.Call (.Name f q) (a::args) AT p) ρ=some (u,Hf):=by
 show Dd (A1 top W n) top sc (.Name f q) (a::args) AT p ρ=_
 refine Ab (AF g) ?_
 rw[if_pos g1]
 unfold GD
 rw[g2,if_neg Bool.false_ne_true,if_pos g3]
 refine Ab hd ?_
 show(match Cs sc a ρ with|some (x,_)=>_|none=>_)=_
 rw[h0]
 exact Ab RP (Ab h1 (Ab h2 h3))
theorem Bt{z:PySem.Expr}{op:Operator}{w:AV}(h1:(A1 top W n).e sc a ρ=some (v,ρ1))(h2:(A1 top W n).e sc z ρ1=some (w,AD))(h3:CG op v w=some u):(A1 top W (n+1)).e sc (.BinOp a op z p) ρ=some (u,AD):=Ab h1 (Ab h2 (Ab h3 rfl))
theorem I0(h:xs.length+ys.length<=Bg):CG .Add (.list xs) (.list ys)=some (.list (xs++ys)):=Ab (x:=ys) rfl (Ab (AF (decide_eq_true h)) rfl)
theorem add_str{a b:Str}(h:a.length+b.length<=Bg):CG .Add (.str a) (.str b)=some (.str (a++b)):=Ab (x:=b) rfl (Ab (AF (decide_eq_true h)) rfl)
theorem G9(h:BY (A1 top W n) sc es ρ=some (vs,ρ1))(hl:vs.length<=Bg){cx:Nat}:(A1 top W (n+1)).e sc (.Tuple es cx p) ρ=some (.tup vs,ρ1):=Ab h (Ab (AF (decide_eq_true hl)) rfl)
noncomputable def Runs(body:AV->R->Option (Fl×R))(vs:List AV)(ρ ρ':R):Prop:=∀more,BP body (vs++more) ρ=BP body more ρ'
theorem Runs.nil:Runs body [] ρ ρ:= λ_=>rfl
theorem Runs.step(h:body v ρ=some (.next,ρ1))(k:Runs body vs ρ1 AD):Runs body (v::vs) ρ AD:= λmore=>Ab h (k more)
theorem Runs.trans{ws:List AV}(h:Runs body vs ρ ρ1)(k:Runs body ws ρ1 AD):Runs body (vs++ws) ρ AD:= λmore=>by
 rw[List.append_assoc,h,k]
theorem Runs.all(h:Runs body vs ρ ρ1):BP body vs ρ=some (.next,ρ1):=by
 have:=h []
 rw[List.append_nil] at this
 exact this
theorem E0(h1:Ik sc t i ρ=none)(h2:JQ sc i=none)(h3:Gq r sc i ρ=some (its,ρ1))(h4:BP (forTurn r sc t b) its ρ1=some (f,AD)):AQ r top W sc (.For t i b [] p) ρ=some (f,AD):=by
 refine Ab (AF rfl) ?_
 show(match Ik sc t i ρ with|some (f,x)=>_|none=>_)=_
 rw[h1]
 show(match JQ sc i with|some (x,a)=>_|none=>_)=_
 rw[h2]
 exact Ab h3 h4
theorem Mf(h1:Ik sc t i ρ=none)(h2:JQ sc i=some (x,a))(h3:JZ r sc x a ρ=some (its,ρ1))(h4:BP (forTurn r sc t b) its ρ1=some (f,AD))(h5:(ME t).isSome=true):AQ r top W sc (.For t i b [] p) ρ=some (f,AD):=by
 refine Ab (AF rfl) ?_
 show(match Ik sc t i ρ with|some (f,x)=>_|none=>_)=_
 rw[h1]
 show(match JQ sc i with|some (x,a)=>_|none=>_)=_
 rw[h2]
 exact Ab (AF h5) (Ab h3 h4)
theorem Cz{bs:List (Str×AV)}(h:r.ss d.sc d.body ⟨bs.reverse,λ_=>false⟩=some (.ret v,ρ))(g:(!d.sc.isGenerator)=true):BZ r d bs=some (v,ρ):=Ab (AF g) (Ab h rfl)
theorem Lz{bs:List (Str×AV)}(h:r.ss d.sc d.body ⟨bs.reverse,λ_=>false⟩=some (.next,ρ))(g:(!d.sc.isGenerator)=true):BZ r d bs=some (.none,ρ):=Ab (AF g) (Ab h rfl)
theorem CV{bs:List (Str×AV)}(h:B4 top x=some d)(hb:D9 d.ps vs ks=some bs)(k:BZ r d bs=some (v,ρ)):BL r top x vs ks=some (v,ρ):=Ab h (Ab hb k)
end
section
variable {scope:Scope} {t i:PySem.Expr} {p q:Pos} {v u:AV} {acc:List AV} {g:Comprehension}
theorem Pl(h:r.e sc elt ρ=some (v,ρ1))(hl:acc.length<100000):BF r sc elt [] acc ρ=some (acc++[v],ρ1):=Ab h (Ab (AF (decide_eq_true hl)) rfl)
theorem Ng{CJ:Option (List AV×R)}(h1:BS sc t v ρ=some ρ1)(h2:go acc ρ1=CJ):compTurn r sc t [] go v acc ρ=CJ:=Ab h1 (Ab rfl h2)
theorem VG{CJ:Option (List AV×R)}(h1:BS sc t v ρ=some ρ1)(h2:r.t sc e ρ1=some (b,AD))(h3:(if b=true then go acc AD else some (acc,AD))=CJ):compTurn r sc t [e] go v acc ρ=CJ:=by
 refine Ab h1 (Ab (x:=(b,AD)) (Ab h2 ?_) h3)
 cases b<;>rfl
theorem ML{body:AV->List AV->R->Option (List AV×R)}{f:AV->List AV}:∀{its acc:List AV} {ρ:R} (_:∀v∈its,∀acc ρ,acc.length<90000->At ρ->∃ρ',body v acc ρ=some (acc++f v,ρ')/\At ρ'),acc.length+(its.flatMap f).length<90000->At ρ->∃ρ',B6 body its acc ρ=some (acc++its.flatMap f,ρ')/\At ρ':=by
 intro Al
 induction Al with
 |nil=>
  intro acc ρ _ _ a
  exact⟨ρ,by rw[List.flatMap_nil,List.append_nil];rfl,a⟩
 |cons v its zih=>
  intro acc ρ h hl a
  rw[List.flatMap_cons,List.length_append] at hl
  refine Ak (h v List.mem_cons_self acc ρ (by exact Ap 0x16c15f90530116a15f905344211101 Aa hl) a) λρ1 e1 a1=>?_
  refine Ak (zih (acc:=acc++f v) (λw hw=>h w (List.mem_cons_of_mem _ hw)) (by rw[List.length_append];exact Ap 0x16c15f90534214110116a15f905344211101 Aa hl) a1) λAD e2 a2=>?_
  refine⟨AD,Ab e1 (e2.trans ?_),a2⟩
  rw[List.flatMap_cons,List.append_assoc]
noncomputable def jL(sc scope:Scope)(gs:List Comprehension)(ρ:R):Bool:=(DF (A5 sc scope)).isNone&&seen sc scope ρ&&scope.kind==.function&&gs.all (λg=>g.is_async==0&&BI g.iter)&&scope.names.all (λp=>scope.names.lookup p.1==some p.2)
theorem Cg(g0:jL sc scope (g::gs) ρ=true)(h1:Gq r sc g.iter ρ=some (its,ρ1))(h2:B6 (compTurn r (A5 sc scope) g.target g.ifs (BF r (A5 sc scope) elt gs)) its [] ⟨CT scope ρ1,Ay scope⟩=some (xs,ρ'))(h3:IP ρ' (CT scope ρ1) ρ1=some AD):
 GL r sc (.ListComp elt (g::gs) scope p) ρ=some (xs,AD):=by
 show LN r sc elt (g::gs) scope ρ=_
 exact Ab (AF g0) (Ab h1 (Ab h2 (Ab h3 rfl)))
theorem Ed(h:GL (A1 top W n) sc (.ListComp elt gs scope p) ρ=some (xs,ρ1)):(A1 top W (n+1)).e sc (.ListComp elt gs scope p) ρ=some (.list xs,ρ1):=Ab h rfl
theorem as_list(h:GL r sc e ρ=some (xs,ρ1))(hm:Ih e=true)(ho:IX x=false)(hb:Cy sc x (.list xs) ρ1=some AD):AQ r top W sc (.Assign [.Name x q] e p) ρ=some (.next,AD):=by
 refine LO (Ab (x:=.Name x q) rfl ?_)
 show GA r sc x e ρ=_
 unfold GA
 rw[if_pos hm]
 refine Ab h ?_
 show(if IX x=true then _ else _)=_
 rw[ho,if_neg Bool.false_ne_true]
 exact hb
theorem PH(h:GL r sc e ρ=some (xs,ρ1))(hm:Ih e=true)(ho:IX x=true)(hn:(ρ1.get x).isNone=true)(hb:Cy sc x (.ol xs) ρ1=some AD):AQ r top W sc (.Assign [.Name x q] e p) ρ=some (.next,AD):=by
 refine LO (Ab (x:=.Name x q) rfl ?_)
 show GA r sc x e ρ=_
 unfold GA
 rw[if_pos hm]
 refine Ab h ?_
 show(if IX x=true then _ else _)=_
 rw[ho,if_pos rfl]
 exact Ab (AF hn) hb
end
theorem ZA(xs:List AV)(a:Nat):∀k:Nat,((List.range k).map (a+·)).filterMap (xs[·]?)=(xs.drop a).take k:=by
 intro Al
 induction Al with
 |zero=>
  simp
 |succ k zih=>
  rw[List.range_succ,List.map_append,List.filterMap_append,zih,List.take_add_one]
  congr 1
  simp only[List.map_cons,List.map_nil,List.getElem?_drop]
  cases h:xs[a+k]? <;>simp[h]
theorem NM{lo hi:Option Int}{a b:Nat}(e:sliceBounds lo hi none xs.length=((a:Int),(b:Int),1)):GK xs lo hi none=(xs.drop a).take (b - a):=by
 unfold GK
 rw[e]
 simp only[sliceRange_one,ZA]
theorem aF(xs:List AV):GK xs none none none=xs:=by
 rw[NM (a:=0) (b:=xs.length) (by simp[sliceBounds])]
 simp
theorem Rn(xs:List AV)(b:Nat):GK xs none (some (b:Int)) none=xs.take b:=by
 rw[NM (a:=0) (b:=min b xs.length) (by
  simp only[sliceBounds,Option.getD_none]
  have h2:¬((b:Int)<0):=by exact Ah 0x13c02701 Aa
  simp only[h2,if_false,show(1:Int)>0 by decide,if_true]
  congr 1
  congr 1;exact Bm (λA6 Af=>Ia (λAS Am=>DH (λBq A0=>Int.le_antisymm (BC 0x10c7111115b011110b011110b70101 Aa Af Am A0) (BC 0x10c1171114b011111b011111b70101 Aa Af Am A0)) (λBq A0=>Int.le_antisymm (I4 0x10c7211115b112110b011110a71170110b70101 Aa Af Am Bq A0) (BC 0x10c1170111b011111b7110114a1101 Aa Am A0 (Nat.min_le_right _ _)))) (λAS Am=>DH (λBq A0=>Int.le_antisymm (BO 0x10c7010110b0201 Aa Am) (BC 0x10c1171114b011110a020111b021111b70101 Aa Af AS Am A0)) (λBq A0=>Int.le_antisymm (BO 0x10c7010110b0201 Aa Am) (BC 0x10c1170110a020111b021111b7110114a1101 Aa AS Am A0 (Nat.min_le_right _ _))))) (λA6 Af=>Ia (λAS Am=>DH (λBq A0=>Int.le_antisymm (I4 0x10c7211115b112110b011110a71170110b70101 Aa Af Am Bq A0) (BC 0x10c1170111b011111b7110114a1101 Aa Am A0 (Nat.min_le_left _ _))) (λBq A0=>Int.le_antisymm (BC 0x10c7111115b011110b011110b70101 Aa Af Am A0) (BC 0x10c1171114b011111b011111b70101 Aa Af Am A0))) (λAS Am=>DH (λBq A0=>Int.le_antisymm (BO 0x10c7010110b0201 Aa Am) (BC 0x10c1170110a020111b021111b7110114a1101 Aa AS Am A0 (Nat.min_le_left _ _))) (λBq A0=>Int.le_antisymm (BO 0x10c7010110b0201 Aa Am) (BC 0x10c1171114b011110a020111b021111b70101 Aa Af AS Am A0))))),List.drop_zero,Nat.sub_zero,<-List.take_eq_take_min]
theorem Pj(xs:List AV)(a:Nat):GK xs (some (a:Int)) none none=xs.drop a:=by
 rw[NM (a:=min a xs.length) (b:=xs.length) (by
  simp only[sliceBounds,Option.getD_none]
  have h2:¬((a:Int)<0):=by exact Ah 0x13c02701 Aa
  simp only[h2,if_false,show(1:Int)>0 by decide,if_true]
  congr 1
  exact Bm (λA6 Af=>Ia (λAS Am=>DH (λBq A0=>Int.le_antisymm (BC 0x10c7111115b011110b011110b70101 Aa Af Am A0) (BC 0x10c1171114b011111b011111b70101 Aa Af Am A0)) (λBq A0=>Int.le_antisymm (I4 0x10c7211115b112110b011110a71170110b70101 Aa Af Am Bq A0) (BC 0x10c1170111b011111b7110114a1101 Aa Am A0 (Nat.min_le_right _ _)))) (λAS Am=>DH (λBq A0=>Int.le_antisymm (BO 0x10c7010110b0201 Aa Am) (BC 0x10c1171114b011110a020111b021111b70101 Aa Af AS Am A0)) (λBq A0=>Int.le_antisymm (BO 0x10c7010110b0201 Aa Am) (BC 0x10c1170110a020111b021111b7110114a1101 Aa AS Am A0 (Nat.min_le_right _ _))))) (λA6 Af=>Ia (λAS Am=>DH (λBq A0=>Int.le_antisymm (I4 0x10c7211115b112110b011110a71170110b70101 Aa Af Am Bq A0) (BC 0x10c1170111b011111b7110114a1101 Aa Am A0 (Nat.min_le_left _ _))) (λBq A0=>Int.le_antisymm (BC 0x10c7111115b011110b011110b70101 Aa Af Am A0) (BC 0x10c1171114b011111b011111b70101 Aa Af Am A0))) (λAS Am=>DH (λBq A0=>Int.le_antisymm (BO 0x10c7010110b0201 Aa Am) (BC 0x10c1170110a020111b021111b7110114a1101 Aa AS Am A0 (Nat.min_le_left _ _))) (λBq A0=>Int.le_antisymm (BO 0x10c7010110b0201 Aa Am) (BC 0x10c1171114b011110a020111b021111b70101 Aa Af AS Am A0)))))]
 by_cases h:a<=xs.length
 ·rw[Nat.min_eq_left h,List.take_of_length_le (by simp)]
 ·rw[Nat.min_eq_right (by exact Ac 0x14c011115a1101 Aa h),Nat.sub_self,List.take_zero,List.drop_eq_nil_of_le (by exact Ac 0x14c011115a1101 Aa h)]
theorem Uw(xs:List AV)(a b:Nat):GK xs (some (a:Int)) (some (b:Int)) none=(xs.take b).drop a:=by
 rw[NM (a:=min a xs.length) (b:=min b xs.length) (by
  simp only[sliceBounds,Option.getD_none]
  have h1:¬((a:Int)<0):=by exact Ah 0x13c02701 Aa
  have h2:¬((b:Int)<0):=by exact Ah 0x13c02701 Aa
  simp only[h1,h2,if_false,show(1:Int)>0 by decide,if_true]
  congr 1
  ·exact Bm (λA6 Af=>Ia (λAS Am=>DH (λBq A0=>Int.le_antisymm (BC 0x10c7111115b011110b011110b70101 Aa Af Am A0) (BC 0x10c1171114b011111b011111b70101 Aa Af Am A0)) (λBq A0=>Int.le_antisymm (I4 0x10c7211115b112110b011110a71170110b70101 Aa Af Am Bq A0) (BC 0x10c1170111b011111b7110114a1101 Aa Am A0 (Nat.min_le_right _ _)))) (λAS Am=>DH (λBq A0=>Int.le_antisymm (BO 0x10c7010110b0201 Aa Am) (BC 0x10c1171114b011110a020111b021111b70101 Aa Af AS Am A0)) (λBq A0=>Int.le_antisymm (BO 0x10c7010110b0201 Aa Am) (BC 0x10c1170110a020111b021111b7110114a1101 Aa AS Am A0 (Nat.min_le_right _ _))))) (λA6 Af=>Ia (λAS Am=>DH (λBq A0=>Int.le_antisymm (I4 0x10c7211115b112110b011110a71170110b70101 Aa Af Am Bq A0) (BC 0x10c1170111b011111b7110114a1101 Aa Am A0 (Nat.min_le_left _ _))) (λBq A0=>Int.le_antisymm (BC 0x10c7111115b011110b011110b70101 Aa Af Am A0) (BC 0x10c1171114b011111b011111b70101 Aa Af Am A0))) (λAS Am=>DH (λBq A0=>Int.le_antisymm (BO 0x10c7010110b0201 Aa Am) (BC 0x10c1170110a020111b021111b7110114a1101 Aa AS Am A0 (Nat.min_le_left _ _))) (λBq A0=>Int.le_antisymm (BO 0x10c7010110b0201 Aa Am) (BC 0x10c1171114b011110a020111b021111b70101 Aa Af AS Am A0))))
  ·congr 1;exact Bm (λA6 Af=>Ia (λAS Am=>DH (λBq A0=>Int.le_antisymm (BC 0x10c7111115b011110b011110b70101 Aa Af Am A0) (BC 0x10c1171114b011111b011111b70101 Aa Af Am A0)) (λBq A0=>Int.le_antisymm (I4 0x10c7211115b112110b011110a71170110b70101 Aa Af Am Bq A0) (BC 0x10c1170111b011111b7110114a1101 Aa Am A0 (Nat.min_le_right _ _)))) (λAS Am=>DH (λBq A0=>Int.le_antisymm (BO 0x10c7010110b0201 Aa Am) (BC 0x10c1171114b011110a020111b021111b70101 Aa Af AS Am A0)) (λBq A0=>Int.le_antisymm (BO 0x10c7010110b0201 Aa Am) (BC 0x10c1170110a020111b021111b7110114a1101 Aa AS Am A0 (Nat.min_le_right _ _))))) (λA6 Af=>Ia (λAS Am=>DH (λBq A0=>Int.le_antisymm (I4 0x10c7211115b112110b011110a71170110b70101 Aa Af Am Bq A0) (BC 0x10c1170111b011111b7110114a1101 Aa Am A0 (Nat.min_le_left _ _))) (λBq A0=>Int.le_antisymm (BC 0x10c7111115b011110b011110b70101 Aa Af Am A0) (BC 0x10c1171114b011111b011111b70101 Aa Af Am A0))) (λAS Am=>DH (λBq A0=>Int.le_antisymm (BO 0x10c7010110b0201 Aa Am) (BC 0x10c1170110a020111b021111b7110114a1101 Aa AS Am A0 (Nat.min_le_left _ _))) (λBq A0=>Int.le_antisymm (BO 0x10c7010110b0201 Aa Am) (BC 0x10c1171114b011110a020111b021111b70101 Aa Af AS Am A0)))))]
 rw[List.drop_take]
 by_cases h:a<=xs.length
 ·rw[Nat.min_eq_left h]
  by_cases h':b<=xs.length
  ·rw[Nat.min_eq_left h']
  ·rw[Nat.min_eq_right (by exact Ac 0x14c011115a1101 Aa h'),List.take_of_length_le (by simp),List.take_of_length_le (by simp;exact A7 0x14c421113115a310114a4211101 Aa h' Bl)]
 ·rw[Nat.min_eq_right (by exact Ac 0x14c011115a1101 Aa h:xs.length<=a),List.drop_eq_nil_of_le (by exact Ah 0x14c0101 Aa:xs.length<=xs.length),List.drop_eq_nil_of_le (by exact Ac 0x14c011115a1101 Aa h:xs.length<=a)]
  simp
theorem Hk{lo hi:Option Int}(h:xs.length<=100000)(e:GK xs lo hi none=ys):D5 (.list xs) lo hi none=some (.list ys):=by
 subst e
 exact Ab (AF (decide_eq_true h)) rfl
section
variable {p q:Pos} {v u:AV}
theorem O0{lo:Option PySem.Expr}{l h k:Option Int}{w:PySem.Expr}(h1:Cs sc w ρ=some (x,ys))(h3:Kj (A1 top W n) sc lo hi CS ρ=some ((l,h,k),ρ1))(h2:ρ1.get x=some (.ol xs))(h4:D5 (.list xs) l h k=some u):
 (A1 top W (n+1)).e sc (.Subscript w (.Slice lo hi CS q) p) ρ=some (u,ρ1):=by
 show(match Cs sc w ρ with|some (x,_)=>_|none=>_)=_
 rw[h1]
 exact Ab h3 (Ab h2 (Ab (x:=xs) rfl (Ab h4 rfl)))
theorem nZ(h:BY (A1 top W n) sc es ρ=some (vs,ρ1))(hl:vs.length<=Bg):(A1 top W (n+1)).e sc (.List es p) ρ=some (.list vs,ρ1):=Ab (x:=(vs,ρ1)) (Ab h (Ab (AF (decide_eq_true hl)) rfl)) rfl
end
theorem HN(h:r.t sc e ρ=some (b,ρ)):Ga r sc [e] ρ=some (b,ρ):=Ab h (by cases b<;>rfl)
theorem NB{t:PySem.Expr}{f:AV->Option AV}:∀{its acc:List AV} {ρ:R},(∀v∈its,∀ρ,At ρ->∃ρ1,BS sc t v ρ=some ρ1/\At ρ1/\((Ga r sc ifs ρ1=some (false,ρ1)/\f v=none)∨(Ga r sc ifs ρ1=some (true,ρ1)/\∃u,r.e sc elt ρ1=some (u,ρ1)/\f v=some u)))->acc.length+its.length<95000->At ρ->
 ∃ρ',B6 (compTurn r sc t ifs (BF r sc elt [])) its acc ρ=some (acc++its.filterMap f,ρ')/\At ρ':=by
 intro Al
 induction Al with
 |nil=>
  intro acc ρ _ _ a
  exact⟨ρ,by rw[List.filterMap_nil,List.append_nil];rfl,a⟩
 |cons v its zih=>
  intro acc ρ h hl a
  rw[List.length_cons] at hl
  refine Cf (h v List.mem_cons_self ρ a) λρ1 e1 a1 h1=>?_
  obtain⟨h1,h2⟩|⟨h1,u,h2,h3⟩:=h1
  ·refine Ak (zih (acc:=acc) (λw hw=>h w (List.mem_cons_of_mem _ hw)) (by exact Ac 0x16c17318534110116a173185344121101 Aa hl) a1) λAD e2 a2=>?_
   refine⟨AD,Ab (x:=(acc,ρ1)) (Ab e1 (Ab h1 (if_neg Bool.false_ne_true))) (e2.trans ?_),a2⟩
   rw[List.filterMap_cons_none h2]
  ·refine Ak (zih (acc:=acc++[u]) (λw hw=>h w (List.mem_cons_of_mem _ hw)) (by simp;exact Ac 0x16c17318534114120116a173185344121101 Aa hl) a1) λAD e2 a2=>?_
   refine⟨AD,Ab (x:=(acc++[u],ρ1)) (Ab e1 (Ab h1 ((if_pos rfl).trans (Pl h2 (by exact Ac 0x16c186a0530116a173185344121101 Aa hl))))) (e2.trans ?_),a2⟩
   rw[List.filterMap_cons_some h3,List.append_assoc];rfl
theorem IT{t:PySem.Expr}{f:AV->Option AV}(h:∀v∈its,∀ρ,At ρ->∃ρ1,BS sc t v ρ=some ρ1/\At ρ1/\((Ga r sc ifs ρ1=some (false,ρ1)/\f v=none)∨(Ga r sc ifs ρ1=some (true,ρ1)/\∃u,r.e sc elt ρ1=some (u,ρ1)/\f v=some u)))(hl:its.length<90000)(a:At ρ):
 ∃ρ',B6 (compTurn r sc t ifs (BF r sc elt [])) its [] ρ=some (its.filterMap f,ρ')/\At ρ':=by
 have:=NB (acc:=[]) h (by simp;exact Ah 0x16c17318530116a15f905301 Aa hl) a
 rwa [List.nil_append] at this
theorem Ez{t:PySem.Expr}{f:AV->AV}(h:∀v∈its,∀ρ,At ρ->∃ρ1,BS sc t v ρ=some ρ1/\At ρ1/\r.e sc elt ρ1=some (f v,ρ1))(hl:its.length<90000)(a:At ρ):
 ∃ρ',B6 (compTurn r sc t [] (BF r sc elt [])) its [] ρ=some (its.map f,ρ')/\At ρ':=by
 have:=IT (ifs:=[]) (f:= λv=>some (f v)) (λv hv ρ a=>by
  refine Cf (h v hv ρ a) λρ1 e1 a1 e2=>?_
  exact⟨ρ1,e1,a1,.inr ⟨rfl,_,e2,rfl⟩⟩) hl a
 rwa [List.filterMap_eq_map'] at this
theorem Ue{p q:Pos}(h1:Cs sc a ρ=none)(h2:(A1 top W n).e sc a ρ=some (.list xs,ρ1))(h3:Hw xs=some ns)(g:BI a=true)(hg:BV sc "sum"=true):
 (A1 top W (n+1)).e sc (.Call (.Name "sum" q) [a] [] p) ρ=some (.int ns.sum,ρ1):=by
 show Dd (A1 top W n) top sc (.Name "sum" q) [a] [] p ρ=_
 refine Ab (AF rfl) ?_
 show(if BV sc "sum"=true then GD (A1 top W n) top sc "sum" [a] [] ρ else _)=_
 rw[if_pos hg]
 show Jc (A1 top W n) sc "sum" a ρ=_
 show(match Cs sc a ρ with|some (_,xs)=>_|none=>_)=_
 rw[h1]
 exact Ab (AF g) (Ab h2 ((if_neg (by decide)).trans (Ab (x:=xs) rfl (Ab h3 (if_pos rfl)))))
theorem dG{p q:Pos}{k:Int}(h1:Cs sc a ρ=none)(h2:(A1 top W n).e sc a ρ=some (.list xs,ρ1))(h3:Hw xs=some (k::ns))(g:BI a=true)(hg:BV sc "min"=true):
 (A1 top W (n+1)).e sc (.Call (.Name "min" q) [a] [] p) ρ=some (.int (ns.foldl min k),ρ1):=by
 show Dd (A1 top W n) top sc (.Name "min" q) [a] [] p ρ=_
 refine Ab (AF rfl) ?_
 show(if BV sc "min"=true then GD (A1 top W n) top sc "min" [a] [] ρ else _)=_
 rw[if_pos hg]
 show Jc (A1 top W n) sc "min" a ρ=_
 show(match Cs sc a ρ with|some (_,xs)=>_|none=>_)=_
 rw[h1]
 exact Ab (AF g) (Ab h2 ((if_neg (by decide)).trans (Ab (x:=xs) rfl (Ab h3 (if_neg (by decide))))))
noncomputable def S(l:List Nat):Str:=⟨l.toArray⟩
theorem Hm(l:List Nat):(S l).cps.toList=l:=by simp[S]
theorem CA(l:List Nat):(S l).length=l.length:=by simp[S,Str.length]
theorem KC(a b:List Nat):S a++S b=S (a++b):=by
 show(⟨a.toArray++b.toArray⟩:Str)=⟨(a++b).toArray⟩
 simp
theorem Tz{a b:List Nat}(h:S a=S b):a=b:=by
 have:=congrArg (λs=>s.cps.toList) h
 simpa [S] using this
theorem Ks(a b:List Nat):(S a==S b)=(a==b):=by
 rw[Bool.eq_iff_iff,beq_iff_eq,beq_iff_eq]
 exact⟨Tz,λh=>h▸rfl⟩
theorem Pf(l:List Nat)(c:Nat):Txt.contains (S l) ⟨#[c]⟩=decide (c∈l):=by
 have h:=StrLaws.found_one (S l) c
 rw[Hm] at h
 exact h
theorem Qj:∀ls:List (List Nat),Txt.join ⟨#[]⟩ (ls.map S)=S ls.flatten:=by
 intro ls
 show Builtin.Str.glued ⟨#[]⟩ (ls.map S)=_
 rw[StrLaws.glued_eq_join]
 induction ls with
 |nil=>rfl
 |cons l r ih=>
  cases r with
  |nil=>show S l=S (l++[]);rw[List.append_nil]
  |cons l' r'=>
   show S l++⟨#[]⟩++Str.join ⟨#[]⟩ ((l'::r').map S)=_
   rw[ih,show S l++(⟨#[]⟩:Str)=S (l++[]) from KC l [],List.append_nil,KC]
   rfl
theorem TV(l:List Nat){a b:Nat}(Mw:a<=b)(hb:b<=l.length):Txt.slice (S l) (some (a:Int)) (some (b:Int))=S ((l.drop a).take (b - a)):=by
 have h:=StrLaws.sliceText_nat (S l) Mw (by rw[CA];exact hb)
 rw[Hm] at h
 exact h
theorem eA(l:List Nat){a:Nat}(ha:a<=l.length):Txt.slice (S l) (some (a:Int)) none=S (l.drop a):=by
 have e:Txt.slice (S l) (some (a:Int)) none=Txt.slice (S l) (some (a:Int)) (some ((S l).length:Int)):=by
  unfold Txt.slice
  rw[StrLaws.sliceIdx_none_hi]
 rw[e,CA,TV l ha (Nat.le_refl _),List.take_of_length_le (by simp)]
noncomputable def units:List Nat->List (List Nat)
 |[]=>[]
 |[c]=>[[c]]
 |c::d::r=>if c=92 then[c,d]::units r else[c]::units (d::r)
noncomputable def DP:Nat->List (List Nat)->List AV
 |_,[]=>[]
 |p,u::us=>.tup [.int (((p+u.length:Nat):Int) - 1),.str (S u)]::DP (p+u.length) us
theorem MX:∀(l:List Nat) (p:Nat),Cv p false l=DP p (units l)
 |[],_=>rfl
 |[c],p=>by
  by_cases h:c=92
  ·subst h;rfl
  ·show(if c=92 then _ else _)=_
   rw[if_neg h]
   show[AV.tup [.int (p:Int),.str ⟨#[c]⟩]]=[AV.tup [.int (((p+1:Nat):Int) - 1),.str (S [c])]]
   rw[show((p+1:Nat):Int) - 1=(p:Int) by exact Int.le_antisymm (Ah 0x10c701812741201 Aa) (Ah 0x10c812741201701 Aa)];rfl
 |c::d::r,p=>by
  by_cases h:c=92
  ·subst h
   show AV.tup [.int ((p+1:Nat):Int),.str ⟨#[92,d]⟩]::Cv (p+1+1) false r=_
   rw[MX r,show units (92::d::r)=[92,d]::units r from if_pos rfl]
   show _=AV.tup [.int (((p+2:Nat):Int) - 1),.str (S [92,d])]::DP (p+2) (units r)
   rw[show((p+2:Nat):Int) - 1=((p+1:Nat):Int) by exact Int.le_antisymm (Ah 0x10c741201812742201 Aa) (Ah 0x10c812742201741201 Aa)];rfl
  ·show(if c=92 then _ else _)=_
   rw[if_neg h,MX (d::r),show units (c::d::r)=[c]::units (d::r) from if_neg h]
   show _=AV.tup [.int (((p+1:Nat):Int) - 1),.str (S [c])]::DP (p+1) (units (d::r))
   rw[show((p+1:Nat):Int) - 1=(p:Int) by exact Int.le_antisymm (Ah 0x10c701812741201 Aa) (Ah 0x10c812741201701 Aa)];rfl
noncomputable def Op(u:List Nat):Prop:=(∃c,u=[c]/\c≠92)∨∃c,u=[92,c]
theorem gO{u r:List Nat}(h:Op u):units (u++r)=u::units r:=by
 obtain⟨c,rfl,hc⟩|⟨c,rfl⟩:=h
 ·cases r with
  |nil=>rfl
  |cons d r=>exact if_neg hc
 ·exact if_pos rfl
theorem k9:∀{us:List (List Nat)} {r:List Nat},(∀u∈us,Op u)->units (us.flatten++r)=us++units r:=by
 intro Al
 induction Al with
 |nil=>
  intro _ _
  exact rfl
 |cons u us ih=>
  intro r h
  rw[List.flatten_cons,List.append_assoc,gO (h u List.mem_cons_self),ih λv hv=>h v (List.mem_cons_of_mem _ hv)]
  rfl
theorem WX(h:∀u∈us,Op u):units us.flatten=us:=by
 have:=k9 (r:=[]) h
 rw[List.append_nil] at this
 rw[this];show us++[]=us;rw[List.append_nil]
theorem Zf{a b:Nat}(Mw:a<=b)(hb:b<=l.length)(hl:l.length<=Bg):D5 (.str (S l)) (some (a:Int)) (some (b:Int)) none=some (.str (S ((l.drop a).take (b - a)))):=by
 refine Ab (AF ?_) ?_
 ·rw[CA];simpa using hl
 ·rw[TV l Mw hb]
theorem TX{a:Nat}(ha:a<=l.length)(hl:l.length<=Bg):D5 (.str (S l)) (some (a:Int)) none none=some (.str (S (l.drop a))):=by
 refine Ab (AF ?_) ?_
 ·rw[CA];simpa using hl
 ·rw[eA l ha]
noncomputable def IF:Stmt:=at' EG.body 4
noncomputable def sR(l:List Nat)(st:Int)(op:AV)(res:List AV)(p:Int)(ch:Str):R:=⟨[("addr",.str (S l)),("start",.int st),("open_pos",op),("result",.ol res),("pos",.int p),("ch",.str ch)],λ_=>false⟩
theorem iF{st:Int}{op:AV}{p:Int}{ch:Str}(h:(ch=="\"")=false):
 (E W (n+6)).ss EG.sc (AB IF) (sR l st op res p ch)=some (.next,sR l st op res p ch):=A3 (AZ (Br h rfl) rfl)
theorem eH{st:Int}{p:Int}:
 (E W (n+6)).ss EG.sc (AB IF) (sR l st .none res p "\"")=some (.next,sR l st (.int p) res p "\""):=rfl
theorem mN{st:Int}{p:Int}:
 (E W (n+6)).ss EG.sc (AB IF) (sR l st (.int st) res p "\"")=some (.next,sR l (p+1) .none res p "\""):=
 A3 (B3 rfl (A3 (AZ rfl (Aq (AZ (Br (by simp) rfl) rfl) rfl))))
theorem ZD{st o:Nat}{p:Int}(h1:st<o)(h2:o<=l.length)(h3:l.length<=Bg)(h4:res.length<Bg):
 (E W (n+8)).ss EG.sc (AB IF) (sR l st (.int o) res p "\"")=some (.next,sR l (p+1) .none (res++[.str (S ((l.drop st).take (o - st)))]) p "\""):=by
 refine A3 (B3 rfl (A3 (AZ rfl (Aq (B3 (Br (c:= !((st:Int)==(o:Int))) (by simp;exact λBk=>Ac 0x16a110111b711701 Aa h1 Bk) rfl) (A3 (DM (Bp (Dm rfl rfl rfl (Zf (Nat.le_of_lt h1) h2 h3)) rfl) rfl rfl (FF h4) rfl rfl))) rfl))))
noncomputable def Ey:Bool×List (List Nat)->List (List Nat)
 |(true,us)=>[34]::us++[[34]]
 |(false,us)=>us
noncomputable def Lh:Bool×List (List Nat)->List (List Nat)
 |(true,_)=>[]
 |(false,us)=>us
noncomputable def raw(bs:List (Bool×List (List Nat))):List Nat:=(bs.flatMap Ey).flatten
noncomputable def plain(bs:List (Bool×List (List Nat))):List (List Nat):=bs.flatMap Lh
noncomputable def Et(bs:List (Bool×List (List Nat))):Prop:=∀b∈bs,∀u∈b.2,Op u/\u≠[34]
theorem oA:("\"":Str)=S [34]:=rfl
theorem iU{u:List Nat}(h:u≠[34]):(S u==("\"":Str))=false:=by
 rw[oA,Ks]
 exact beq_false_of_ne h
theorem NE:∀(us vs:List (List Nat)) (p:Nat),DP p (us++vs)=DP p us++DP (p+us.flatten.length) vs:=by
 intro Al
 induction Al with
 |nil=>
  intro _ _
  exact rfl
 |cons u us ih=>
  intro vs p
  show _::DP (p+u.length) (us++vs)=_::(DP (p+u.length) us++_)
  rw[ih vs,List.flatten_cons,List.length_append,Nat.add_assoc]
noncomputable def PP(l:List Nat)(st:Int)(op:AV)(res:List AV):R:=⟨[("addr",.str (S l)),("start",.int st),("open_pos",op),("result",.ol res)],λ_=>false⟩
noncomputable def sAt(l:List Nat)(st:Int)(op:AV)(res:List AV)(ρ:R):Prop:=ρ=PP l st op res∨∃p ch,ρ=sR l st op res p ch
theorem sAt.tgt{st:Int}{op:AV}(h:sAt l st op res ρ)(p:Int)(ch:Str):BS EG.sc (BD IF) (.tup [.int p,.str ch]) ρ=some (sR l st op res p ch):=by
 obtain rfl|⟨_,_,rfl⟩:=h<;>rfl
noncomputable abbrev II(W n:Nat):=forTurn (E W (n+8)) EG.sc (BD IF) (AB IF)
theorem TY{st:Int}{op:AV}:∀{us:List (List Nat)} {p:Nat} {ρ:R},(∀u∈us,u≠[34])->sAt l st op res ρ->∃ρ',Runs (II W n) (DP p us) ρ ρ'/\sAt l st op res ρ':=by
 intro Al
 induction Al with
 |nil=>
  intro _ ρ _ h
  exact⟨ρ,.nil,h⟩
 |cons u us zih=>
  intro p ρ hu h
  refine Ak (zih (p:=p+u.length) (λv hv=>hu v (List.mem_cons_of_mem _ hv)) (.inr ⟨_,_,rfl⟩:sAt l st op res (sR l st op res (((p+u.length:Nat):Int) - 1) (S u)))) λρ' h1 h2=>?_
  exact⟨ρ',.step (turn (h.tgt _ _) (iF (iU (hu u List.mem_cons_self)))) h1,h2⟩
theorem Ze:∀{bs:List (Bool×List (List Nat))} {pre post:List Nat} {st:Nat} {ss:List (List Nat)} {ρ:R},Et bs->l=pre++raw bs++post->l.length<=Bg->ss.length+bs.length<=Bg->st<=pre.length->
 sAt l st .none (ss.map λx=>.str (S x)) ρ->∃(JC:Nat) (FN:List (List Nat)) (ρ':R),Runs (II W n) (DP pre.length (bs.flatMap Ey)) ρ ρ'/\sAt l (JC:Nat) .none (FN.map λx=>.str (S x)) ρ'/\JC<=(pre++raw bs).length/\FN.length<=ss.length+bs.length/\
  FN.flatten++(l.take (pre++raw bs).length).drop JC=ss.flatten++(l.take pre.length).drop st++(plain bs).flatten:=by
 intro Al
 induction Al with
 |nil=>
  intro pre post st ss ρ _ hl _ _ hst h
  exact⟨st,ss,ρ,.nil,h,by simpa [raw] using hst,by simp,by simp[raw,plain]⟩
 |cons zx bs zih=>
  obtain⟨_|_,us⟩:=zx
  ·intro pre post st ss ρ hg hl hm hs hst h
   refine Ak (TY (W:=W) (n:=n) (p:=pre.length) (λu hu=>(hg _ List.mem_cons_self u hu).2) h) λAw r1 h1=>?_
   have e:raw ((false,us)::bs)=us.flatten++raw bs:=by simp[raw,Ey]
   have KE:l=(pre++us.flatten)++raw bs++post:=by rw[hl,e];simp[List.append_assoc]
   refine Fo (zih (λb hb=>hg b (List.mem_cons_of_mem _ hb)) KE hm (by simp at hs;exact Ac 0x14c186a0534110114a186a05344121101 Aa hs) (by simp;exact Ap 0x14c421110114a1101 Aa hst) h1) λJC FN ρ' r2 h2 h3 h4 h5=>?_
   refine⟨JC,FN,ρ',?_,h2,by rw[e];simpa [Nat.add_assoc] using h3,by simp;exact Ap 0x14c441221110114a4211101 Aa h4,?_⟩
   ·show Runs _ (DP pre.length (us++bs.flatMap Ey)) _ _
    rw[NE]
    rw[List.length_append] at r2
    exact r1.trans r2
   ·rw[e,<-List.append_assoc,h5]
    have:(l.take (pre++us.flatten).length).drop st=(l.take pre.length).drop st++us.flatten:=by
     rw[show l.take pre.length=pre by rw[hl];simp,show l.take (pre++us.flatten).length=pre++us.flatten by rw[KE,List.append_assoc (pre++us.flatten)];exact List.take_left' rfl,List.drop_append_of_le_length hst]
    rw[this]
    simp only[plain,Lh,List.append_assoc,List.flatMap_cons,List.flatten_append]
  ·intro pre post st ss ρ hg hl hm hs hst h
   have e:raw ((true,us)::bs)=[34]++us.flatten++[34]++raw bs:=by simp[raw,Ey]
   have KE:l=(pre++([34]++us.flatten++[34]))++raw bs++post:=by rw[hl,e];simp only[List.append_assoc]
   have hp:pre.length<=l.length:=by rw[hl];simp
   have o1:Runs (II W n) (DP pre.length [[34]]) ρ (sR l st (.int pre.length) (ss.map λx=>.str (S x)) pre.length "\""):=by
    have h0:II W n (.tup [.int (((pre.length+1:Nat):Int) - 1),.str "\""]) ρ=some (.next,_):=turn (h.tgt _ _) eH
    rw[show((pre.length+1:Nat):Int) - 1=(pre.length:Int) by exact Int.le_antisymm (Ah 0x10c701812741201 Aa) (Ah 0x10c812741201701 Aa)] at h0
    refine .step (ρ1:=_) ?_ .nil
    show II W n (.tup [.int (((pre.length+1:Nat):Int) - 1),.str "\""]) ρ=some (.next,_)
    rw[show((pre.length+1:Nat):Int) - 1=(pre.length:Int) by exact Int.le_antisymm (Ah 0x10c701812741201 Aa) (Ah 0x10c812741201701 Aa)]
    exact h0
   refine Ak (TY (W:=W) (n:=n) (p:=pre.length+1) (λu hu=>(hg _ List.mem_cons_self u hu).2) (.inr ⟨_,_,rfl⟩:sAt l st (.int pre.length) (ss.map λx=>.str (S x)) (sR l st (.int pre.length) (ss.map λx=>.str (S x)) pre.length "\""))) λB8 r2 h2=>?_
   obtain⟨OC,C2,r3,h3,h4,h5⟩:∃(OC:List (List Nat)) (C2:R),Runs (II W n) (DP (pre.length+1+us.flatten.length) [[34]]) B8 C2/\sAt l ((pre++([34]++us.flatten++[34])).length:Nat) .none (OC.map λx=>.str (S x)) C2/\
    OC.length<=ss.length+1/\OC.flatten=ss.flatten++(l.take pre.length).drop st:=by
    have e2:(((pre.length+1+us.flatten.length+1:Nat):Int) - 1)+1=((pre++([34]++us.flatten++[34])).length:Nat):=by simp;exact Int.le_antisymm (Ac 0x10c44124127117014124711412701 Aa) (Ac 0x10c41247114127014412412711701 Aa)
    by_cases q:st=pre.length
    ·subst q
     refine⟨ss,_,.step (turn (h2.tgt _ _) mN) .nil,.inr ⟨((pre.length+1+us.flatten.length+1:Nat):Int) - 1,"\"",?_⟩,by exact Ah 0x14c4120101 Aa,by simp⟩
     ·rw[<-e2];rfl
    ·refine⟨ss++[(l.drop st).take (pre.length - st)],_,.step (turn (h2.tgt _ _) (ZD (by exact(Nat.lt_or_gt_of_ne q).elim (λA6=>Ac 0x16c110116a1101 Aa A6) (λA6=>Ac 0x06c011114a011116a1101 Aa hst A6)) hp hm (by simp at hs ⊢;exact Ac 0x16c186a0530114a186a05344121101 Aa hs))) .nil,.inr ⟨((pre.length+1+us.flatten.length+1:Nat):Int) - 1,"\"",?_⟩,by simp,?_⟩
     ·rw[<-e2,List.map_append];rfl
     ·simp[List.take_drop]
      rw[show st+(pre.length - st)=pre.length by exact Nat.le_antisymm (Ap 0x14c214011114b2141101 Aa (Nat.sub_add_cancel (Ac 0x14c110114a1101 Aa hst))) (Ap 0x14c411210114a4211101 Aa Bl)]
   refine Fo (zih (λb hb=>hg b (List.mem_cons_of_mem _ hb)) KE hm (by simp at hs;exact Ap 0x14c186a0534112114a412012114a186a05344121101 Aa h4 hs) (Nat.le_refl _) h3) λJC FN ρ' r4 h6 h7 h8 h9=>?_
   refine⟨JC,FN,ρ',?_,h6,by rw[e];simpa [Nat.add_assoc] using h7,by simp;exact A7 0x14c441231112114a431012114a4121101 Aa h8 h4,?_⟩
   ·show Runs _ (DP pre.length (([34]::us++[[34]])++bs.flatMap Ey)) _ _
    rw[show([34]::us++[[34]])++bs.flatMap Ey=[[34]]++(us++([[34]]++bs.flatMap Ey)) by simp,NE,NE,NE]
    refine o1.trans (r2.trans (r3.trans ?_))
    rw[show pre.length+[[34]].flatten.length+us.flatten.length+[[34]].flatten.length=(pre++([34]++us.flatten++[34])).length by simp;exact Nat.le_antisymm (Ac 0x14c4412412110141241141201 Aa) (Ac 0x14c4124114120144124121101 Aa)]
    exact r4
   ·rw[e,<-List.append_assoc,h9,h5]
    simp[plain,Lh]
theorem strs_map:∀ss:List (List Nat),HM (ss.map λx=>.str (S x))=some (ss.map S):=by
 intro Al
 induction Al with
 |nil=>
  exact rfl
 |cons _ r zih=>
  exact Ab rfl (Ab (zih) rfl)
theorem cI:∀ss:List (List Nat),((ss.map S).map Str.length).sum=ss.flatten.length:=by
 intro Al
 induction Al with
 |nil=>
  exact rfl
 |cons a r zih=>
  rw[List.map_cons,List.map_cons,List.sum_cons,zih,List.flatten_cons,List.length_append,CA]
theorem lH(hg:Et bs):units (raw bs)=bs.flatMap Ey:=by
 refine WX λu hu=>?_
 refine Ak (List.mem_flatMap.mp hu) λb hb hu=>?_
 obtain⟨q,us⟩:=b
 cases q with
 |true=>
  have:u=[34]∨u∈us∨u=[34]:=by simpa [Ey] using hu
  obtain rfl|h|rfl:=this
  ·exact .inl ⟨34,rfl,by decide⟩
  ·exact(hg _ hb u h).1
  ·exact .inl ⟨34,rfl,by decide⟩
 |false=>exact(hg _ hb u hu).1
theorem nO:∀{bs:List (Bool×List (List Nat))},34∉raw bs->raw bs=(plain bs).flatten:=by
 intro Al
 induction Al with
 |nil=>
  intro _
  exact rfl
 |cons zx bs zih=>
  obtain⟨_|_,us⟩:=zx
  ·intro h
   have h':34∉raw bs:= λq=>h (by
    have e:raw ((false,us)::bs)=us.flatten++raw bs:=by simp[raw,Ey]
    rw[e];exact List.mem_append_right _ q)
   have:=zih h'
   simp only[raw,plain,List.flatMap_cons,List.flatten_append] at this ⊢
   rw[this];rfl
  ·intro h
   exact(h (by simp[raw,Ey])).elim
theorem TS:∀bs:List (Bool×List (List Nat)),(plain bs).flatten.length<=(raw bs).length:=by
 intro Al
 induction Al with
 |nil=>
  exact Nat.le_refl _
 |cons zx bs zih=>
  obtain⟨_|_,us⟩:=zx
  ·have:=zih
   simp only[raw,plain,List.flatMap_cons,List.flatten_append,List.length_append,Ey,Lh] at this ⊢
   exact Ap 0x14c411214012114a1101 Aa this
  ·have:=zih
   simp only[raw,plain,List.flatMap_cons,List.flatten_append,List.length_append,Ey,Lh,List.nil_append] at this ⊢
   exact A7 0x14c411431210114a1101 Aa this
theorem gS(hg:Et bs)(hl:(raw bs).length<=Bg)(hb:bs.length+1<Bg):∃ρ',BL (E W (n+10)) tp "_strip_quoted_realnames" [.str (S (raw bs))] []=some (.str (S (plain bs).flatten),ρ'):=by
 by_cases q:34∈raw bs
 ·refine Fo (Ze (W:=W) (n:=n+1) (l:=raw bs) (pre:=[]) (post:=[]) (st:=0) (ss:=[]) (ρ:=PP (raw bs) 0 .none []) hg (by simp) hl (by simp;exact Ah 0x14c186a0530116a186a05341201 Aa hb) (Nat.le_refl _) (.inl rfl)) λst ss ρ' h1 h2 h3 h4 h5=>?_
  simp only[List.nil_append,List.length_nil,List.flatten_nil,List.take_zero,List.drop_zero,Nat.zero_add,List.take_length,List.drop_nil] at h3 h4 h5
  have run:BP (II W (n+1)) (Cv 0 false (S (raw bs)).cps.toList) (PP (raw bs) 0 .none [])=some (.next,ρ'):=by
   rw[Hm,MX,lH hg]
   exact h1.all
  have CY:∀FN:List (List Nat),FN.flatten=(plain bs).flatten->∀I5,sAt (raw bs) st .none (FN.map λx=>.str (S x)) I5->∃C2,AQ (E W (n+9)) tp W EG.sc (at' EG.body 6) I5=some (.ret (.str (S (plain bs).flatten)),C2):=by
   intro FN e I5 h
   have hj:(((FN.map S).map Str.length).sum)<=Bg:=by
    rw[cI,e]
    exact Nat.le_trans (TS bs) hl
   rw[<-e,<-Qj]
   obtain rfl|⟨_,_,rfl⟩:=h
   ·exact⟨_,CB (Lc rfl rfl (strs_map _) hj rfl rfl)⟩
   ·exact⟨_,CB (Lc rfl rfl (strs_map _) hj rfl rfl)⟩
  have last:∃C2,Hh (E W (n+9)) tp W EG.sc (EG.body.drop 5) ρ'=some (.ret (.str (S (plain bs).flatten)),C2):=by
   by_cases c:st<(raw bs).length
   ·have hd:(ss++[(raw bs).drop st]).flatten=(plain bs).flatten:=by rw[<-h5];simp
    have ht:∃FT,sAt (raw bs) st .none ((ss++[(raw bs).drop st]).map λx=>.str (S x)) FT/\AQ (E W (n+9)) tp W EG.sc (at' EG.body 5) ρ'=some (.next,FT):=by
     have hs:(ss.map λx=>AV.str (S x)).length<Bg:=by rw[List.length_map];exact Ac 0x16c186a0531114a011116a186a05341201 Aa h4 hb
     rw[List.map_append,List.map_cons,List.map_nil]
     obtain rfl|⟨p,ch,rfl⟩:=h2
     ·refine⟨_,.inl rfl,B3 (B1 rfl rfl (Dn rfl rfl (v:=.str (S (raw bs))) (k:=(raw bs).length) (by rw[<-CA];rfl) hl rfl rfl) ?_ rfl) (A3 (DM (Bp (Dm rfl rfl rfl (TX (Nat.le_of_lt c) hl)) rfl) rfl rfl (FF hs) rfl rfl))⟩
      show some (decide _)=some true
      rw[decide_eq_true (by exact Ac 0x12c71170116a1101 Aa c)]
     ·refine⟨_,.inr ⟨p,ch,rfl⟩,B3 (B1 rfl rfl (Dn rfl rfl (v:=.str (S (raw bs))) (k:=(raw bs).length) (by rw[<-CA];rfl) hl rfl rfl) ?_ rfl) (A3 (DM (Bp (Dm rfl rfl rfl (TX (Nat.le_of_lt c) hl)) rfl) rfl rfl (FF hs) rfl rfl))⟩
      show some (decide _)=some true
      rw[decide_eq_true (by exact Ac 0x12c71170116a1101 Aa c)]
    revert ht;refine Cw λFT rQ uP=>?_
    obtain⟨Mz,IC⟩:=CY _ hd _ rQ
    exact⟨Mz,Aq uP (A3 IC)⟩
   ·obtain⟨Mz,IC⟩:=CY ss (by rw[<-h5,show st=(raw bs).length by exact Nat.le_antisymm (Ac 0x14c110114a1101 Aa h3) (Ac 0x14c011117a1101 Aa c)];simp) _ h2
    refine⟨Mz,Aq (ρ1:=ρ') ?_ (A3 IC)⟩
    obtain rfl|⟨p,ch,rfl⟩:=h2
    ·refine AZ (B1 rfl rfl (Dn rfl rfl (v:=.str (S (raw bs))) (k:=(raw bs).length) (by rw[<-CA];rfl) hl rfl rfl) ?_ rfl) rfl
     show some (decide _)=some false
     rw[decide_eq_false (by exact Ac 0x13c71170117a1101 Aa c)]
    ·refine AZ (B1 rfl rfl (Dn rfl rfl (v:=.str (S (raw bs))) (k:=(raw bs).length) (by rw[<-CA];rfl) hl rfl rfl) ?_ rfl) rfl
     show some (decide _)=some false
     rw[decide_eq_false (by exact Ac 0x13c71170117a1101 Aa c)]
  obtain⟨C2,last⟩:=last
  have hc:Txt.contains (S (raw bs)) ("\"":Str)=true:=by
   rw[show Txt.contains (S (raw bs)) ("\"":Str)=_ from Pf _ 34];simp[q]
  refine⟨C2,CV Xa rfl (Cz ?_ rfl)⟩
  refine Aq (AZ (Br (by rw[hc];rfl) rfl) rfl) (Aq rfl (Aq rfl (Aq rfl (Aq (Mf rfl rfl ?_ run rfl) last))))
  exact Ab rfl (Ab rfl (Ab (AF (decide_eq_true (by rw[CA];exact hl))) rfl))
 ·have hc:Txt.contains (S (raw bs)) ("\"":Str)=false:=by
   rw[show Txt.contains (S (raw bs)) ("\"":Str)=_ from Pf _ 34];simp[q]
  rw[<-nO q]
  exact⟨_,CV Xa rfl (Cz (IN (B3 (Br (by rw[hc];rfl) rfl) rfl)) rfl)⟩
noncomputable def Bz:Int->List (List Nat)->Option Int
 |o,[]=>some o
 |o,u::us=>if u=[40] then Bz (o+1) us else if u=[41] then(if o - 1<0 then none else Bz (o - 1) us) else Bz o us
noncomputable def EJ(us:List (List Nat)):Bool:=match Bz 0 us with
 |some o=>o==0
 |none=>false
noncomputable def MN:Stmt:=at' K6.body 2
noncomputable def cR(l:List Nat)(o:Int)(p:Int)(ch:Str):R:=⟨[("addr",.str (S l)),("opens",.int o),("pos",.int p),("ch",.str ch)],λ_=>false⟩
noncomputable def Ov(l:List Nat)(o:Int):R:=⟨[("addr",.str (S l)),("opens",.int o)],λ_=>false⟩
noncomputable def cAt(l:List Nat)(o:Int)(ρ:R):Prop:=ρ=Ov l o∨∃p ch,ρ=cR l o p ch
theorem cAt.tgt(h:cAt l o ρ)(p:Int)(ch:Str):BS K6.sc (BD MN) (.tup [.int p,.str ch]) ρ=some (cR l o p ch):=by
 obtain rfl|⟨_,_,rfl⟩:=h<;>rfl
noncomputable abbrev PS(W n:Nat):=forTurn (E W (n+6)) K6.sc (BD MN) (AB MN)
noncomputable def Q5:Option Int->Fl
 |some _=>.next
 |none=>.ret (.bool false)
theorem MJ:("(":Str)=S [40]:=rfl
theorem Nr:(")":Str)=S [41]:=rfl
theorem hI:∀{us:List (List Nat)} {p:Nat} {o:Int} {ρ:R},0<=o->cAt l o ρ->∃ρ',BP (PS W n) (DP p us) ρ=some (Q5 (Bz o us),ρ')/\∀o',Bz o us=some o'->cAt l o' ρ':=by
 intro Al
 induction Al with
 |nil=>
  intro _ _ ρ _ h
  exact⟨ρ,rfl,λo' e=>by(revert e;refine As λc0=>?_;subst c0);exact h⟩
 |cons u us zih=>
  intro p o ρ h0 h
  have go:∀o',0<=o'->(E W (n+6)).ss K6.sc (AB MN) (cR l o (((p+u.length:Nat):Int) - 1) (S u))=some (.next,cR l o' (((p+u.length:Nat):Int) - 1) (S u))->Bz o (u::us)=Bz o' us->
   ∃ρ',BP (PS W n) (DP p (u::us)) ρ=some (Q5 (Bz o (u::us)),ρ')/\∀o',Bz o (u::us)=some o'->cAt l o' ρ':=by
   intro o' RP e1 e2
   refine Ak (zih (p:=p+u.length) RP (.inr ⟨_,_,rfl⟩:cAt l o' (cR l o' (((p+u.length:Nat):Int) - 1) (S u)))) λρ' k1 k2=>?_
   rw[e2]
   exact⟨ρ',BH (turn (h.tgt _ _) e1) k1,k2⟩
  by_cases h1:u=[40]
  ·subst h1
   exact go (o+1) (by exact EX 0x10c412010210a0102 Aa h0) rfl (if_pos rfl)
  ·have t1:(S u==("(":Str))=false:=by rw[MJ,Ks];exact beq_false_of_ne h1
   by_cases h2:u=[41]
   ·subst h2
    by_cases h3:o - 1<0
    ·have e:Bz o ([41]::us)=none:=by
      show(if _ then _ else if _ then(if _ then _ else _) else _)=_
      rw[if_neg (by decide),if_pos rfl,if_pos h3]
     rw[e]
     exact⟨_,eT (turn (h.tgt _ _) (A3 (AZ rfl (A3 (B3 rfl (Aq rfl (A3 (B3 (Br (decide_eq_true h3) rfl) (IN rfl))))))))),λ_ q=>nomatch q⟩
    ·refine go (o - 1) (by exact EX 0x10c812010213a0281201 Aa h3) (A3 (AZ rfl (A3 (B3 rfl (Aq rfl (A3 (AZ (Br (decide_eq_false h3) rfl) rfl))))))) ?_
     show(if _ then _ else if _ then(if _ then _ else _) else _)=_
     rw[if_neg (by decide),if_pos rfl,if_neg h3]
   ·have t2:(S u==(")":Str))=false:=by rw[Nr,Ks];exact beq_false_of_ne h2
    refine go o h0 (A3 (AZ (Br t1 rfl) (A3 (AZ (Br t2 rfl) rfl)))) ?_
    show(if _ then _ else if _ then(if _ then _ else _) else _)=_
    rw[if_neg h1,if_neg h2]
theorem Qf(hg:Et bs)(hl:(raw bs).length<=Bg)(hb:bs.length+1<Bg):∃ρ',BL (E W (n+13)) tp "_check_parenthesis" [.str (S (raw bs))] []=some (.bool (EJ (plain bs)),ρ'):=by
 obtain⟨Aw,h1⟩:=gS (W:=W) (n:=n+1) hg hl hb
 have hu:units (plain bs).flatten=plain bs:=WX λu hu=>by
  refine Ak (List.mem_flatMap.mp hu) λBB hb hu=>?_;obtain⟨q,us⟩:=BB
  cases q with
  |true=>cases hu
  |false=>exact(hg _ hb u hu).1
 have KE:(plain bs).flatten.length<=Bg:=Nat.le_trans (TS bs) hl
 refine Ak (hI (W:=W) (n:=n+6) (l:=(plain bs).flatten) (us:=plain bs) (p:=0) (o:=0) (Int.le_refl _) (.inl rfl)) λB8 h2 h3=>?_
 have run:BP (PS W (n+6)) (Cv 0 false (S (plain bs).flatten).cps.toList) (Ov (plain bs).flatten 0)=some (Q5 (Bz 0 (plain bs)),B8):=by
  rw[Hm,MX,hu]
  exact h2
 have it:JZ (E W (n+12)) K6.sc "_iter_escaped_chars" (.Name "addr" default) (Ov (plain bs).flatten 0)=some (Cv 0 false (S (plain bs).flatten).cps.toList,Ov (plain bs).flatten 0):=by
  exact Ab rfl (Ab rfl (Ab (AF (decide_eq_true (by rw[CA];exact KE))) rfl))
 unfold EJ
 cases e:Bz 0 (plain bs) with
 |none=>
  rw[e] at run
  exact⟨_,CV Q9 rfl (Cz (Aq (BK (Dp rfl rfl h1 rfl rfl rfl rfl rfl rfl) rfl rfl) (Aq rfl (IN (Mf rfl rfl it run rfl)))) rfl)⟩
 |some o=>
  rw[e] at run
  obtain rfl|⟨_,_,rfl⟩:=h3 _ e
  ·exact⟨_,CV Q9 rfl (Cz (Aq (BK (Dp rfl rfl h1 rfl rfl rfl rfl rfl rfl) rfl rfl) (Aq rfl (Aq (Mf rfl rfl it run rfl) (A3 (CB rfl))))) rfl)⟩
  ·exact⟨_,CV Q9 rfl (Cz (Aq (BK (Dp rfl rfl h1 rfl rfl rfl rfl rfl rfl) rfl rfl) (Aq rfl (Aq (Mf rfl rfl it run rfl) (A3 (CB rfl))))) rfl)⟩
noncomputable def NC:BG:=defAt tp 3
noncomputable def DX:BG:=defAt tp 4
noncomputable def NZ:BG:=defAt tp 5
noncomputable def DQ:BG:=defAt tp 6
theorem U3:B4 tp "insort_right"=some NC:=rfl
theorem Vw:B4 tp "bisect_right"=some DX:=rfl
theorem UF:B4 tp "insort_left"=some NZ:=rfl
theorem Ly:B4 tp "bisect_left"=some DQ:=rfl
noncomputable def MQ:Stmt->List Stmt
 |.If _ b _ _=>b
 |_=>[]
noncomputable def NR:Stmt->List Stmt
 |.If _ _ b _=>b
 |_=>[]
theorem JW{body:R->Option (Fl×R)}{At:Nat->Nat->R->Prop}{len l0:Nat}(ht:∀{lo hi ρ},At lo hi ρ->test ρ=some (decide ((lo:Int)<(hi:Int)),ρ))
 (hb:∀{lo hi ρ},At lo hi ρ->l0<=lo->lo<hi->hi<=len->∃ρ',body ρ=some (.next,ρ')/\(if(lo+hi)/2<k then At ((lo+hi)/2+1) hi ρ' else At lo ((lo+hi)/2) ρ')):
 ∀{W lo hi:Nat} {ρ:R},hi - lo<W->l0<=lo->lo<=k->k<=hi->hi<=len->At lo hi ρ->∃ρ',GQ test body W ρ=some (.next,ρ')/\At k k ρ'
 |0,_,_,_,h,_,_,_,_,_=>absurd h (Nat.not_lt_zero _)
 |W+1,lo,hi,ρ,h,h0,h1,h2,h3,a=>by
  have t:=ht a
  by_cases c:lo<hi
  ·refine Ak (hb a h0 c h3) λAw e Mt=>?_
   rw[decide_eq_true (by exact Ac 0x12c71170116a1101 Aa c)] at t
   by_cases d:(lo+hi)/2<k
   ·rw[if_pos d] at Mt
    refine Ak (JW ht hb (W:=W) (by exact Dy 0x26c510116a214126a412513116a422216114214124a441312124b2144121101 Aa c h (Nat.lt_div_mul_add (by decide)) Bl (Nat.sub_add_cancel (Ap 0x14c114122116a012114a1101 Aa d h2))) (by exact A7 0x24c412213116a110124a013116a4222162141101 Aa c h0 (Nat.lt_div_mul_add (by decide))) (by exact Ac 0x14c114120116a1101 Aa d) h2 h3 Mt) λρ' e' a'=>?_
    exact⟨ρ',Ab t ((if_pos rfl).trans (Ab e e')),a'⟩
   ·rw[if_neg d] at Mt
    refine Ak (JW ht hb (W:=W) (by exact Dy 0x26c510116a311126a412514114a431112162124a411413124b2141101 Aa c h (Nat.div_mul_le_self _ _) Bl (Nat.sub_add_cancel (Ap 0x24c210116a110116a4222162141101 Aa c (Nat.lt_div_mul_add (by decide))))) h0 h1 (by exact Ac 0x14c011117a1101 Aa d) (by exact A7 0x24c310116a211124a312114a4211121601 Aa c h3 (Nat.div_mul_le_self _ _)) Mt) λρ' e' a'=>?_
    exact⟨ρ',Ab t ((if_pos rfl).trans (Ab e e')),a'⟩
  ·have e1:lo=k:=by exact Nat.le_antisymm (Ac 0x14c110114a1101 Aa h1) (Ap 0x14c210117a112114a1101 Aa c h2)
   have e2:hi=k:=by exact Nat.le_antisymm (Ap 0x14c211114b210117a1101 Aa e1 c) (Ac 0x14c110114a1101 Aa h2)
   subst e1 e2
   rw[decide_eq_false (by exact Ah 0x13c701701 Aa)] at t
   exact⟨ρ,Ab t (if_neg Bool.false_ne_true),a⟩
theorem NH(a b:Nat):((a:Int)+(b:Int)).fdiv 2=(((a+b)/2:Nat):Int):=by
 rw[Int.fdiv_eq_ediv_of_nonneg _ (by decide)];rfl
noncomputable def Lb(key:AV)(lo hi:Int)(x:AV)(xs:List AV):R:=⟨[("key",key),("hi",.int hi),("lo",.int lo),("x",x),("a",.list xs)],λ_=>false⟩
noncomputable def bR(key:AV)(lo hi:Int)(x:AV)(xs:List AV)(m:Int):R:=⟨[("key",key),("hi",.int hi),("lo",.int lo),("x",x),("a",.list xs),("mid",.int m)],λ_=>false⟩
noncomputable def Dl(key:AV)(x:AV)(xs:List AV)(lo hi:Nat)(ρ:R):Prop:=ρ=Lb key lo hi x xs∨∃m,ρ=bR key lo hi x xs m
noncomputable def Om:Stmt:=at' (MQ (at' DQ.body 2)) 0
noncomputable def MP:Stmt:=at' (NR (at' DQ.body 2)) 0
noncomputable def ND:Stmt:=at' (MQ (at' DX.body 2)) 0
noncomputable def MZ:Stmt:=at' (NR (at' DX.body 2)) 0
noncomputable def DU(x:AV):Prop:=x.ol?=none/\x.free=true/\x.clo?=none
section
variable {key x g:AV} {l0 lo hi:Nat}
theorem kO(hx:DU x)(hn:xs.length<100000)(hc:∀m v,l0<=m->xs[m]? =some v->Du .Lt v x=some (decide (m<k)))(a:Dl .none x xs lo hi ρ)(h0:l0<=lo)(h:lo<hi)(hh:hi<=xs.length):
 ∃ρ',(E W (n+6)).ss DQ.sc (AB Om) ρ=some (.next,ρ')/\(if(lo+hi)/2<k then Dl .none x xs ((lo+hi)/2+1) hi ρ' else Dl .none x xs lo ((lo+hi)/2) ρ'):=by
 have hm:(lo+hi)/2<xs.length:=by exact A7 0x26c310124a312116a211114a4211121601 Aa hh h (Nat.div_mul_le_self _ _)
 obtain⟨v,hv⟩:∃v,xs[(lo+hi)/2]? =some v:=⟨_,List.getElem?_eq_getElem hm⟩
 have hc:=hc _ _ (by exact A7 0x24c213116a110124a013116a4222162141101 Aa h h0 (Nat.lt_div_mul_add (by decide))) hv
 have e0:AQ (E W (n+5)) tp W DQ.sc (at' (AB Om) 0) ρ=some (.next,bR .none lo hi x xs ((lo+hi)/2:Nat)):=by
  rw[<-NH]
  obtain rfl|⟨_,rfl⟩:=a<;>rfl
 by_cases c:(lo+hi)/2<k
 ·rw[decide_eq_true c] at hc
  exact⟨_,Aq e0 (A3 (B3 (B1 rfl (BM rfl rfl rfl (DW hv (by exact Ac 0x16c186a0531116a011116a186a05301 Aa hm hn)) rfl rfl) (DN rfl hx.1 hx.2.1) hc rfl) rfl)),by rw[if_pos c];exact .inr ⟨_,rfl⟩⟩
 ·rw[decide_eq_false c] at hc
  exact⟨_,Aq e0 (A3 (AZ (B1 rfl (BM rfl rfl rfl (DW hv (by exact Ac 0x16c186a0531116a011116a186a05301 Aa hm hn)) rfl rfl) (DN rfl hx.1 hx.2.1) hc rfl) rfl)),by rw[if_neg c];exact .inr ⟨_,rfl⟩⟩
theorem o6(hx:DU x)(hn:xs.length<100000)(hc:∀m v,l0<=m->xs[m]? =some v->Du .Lt x v=some (!decide (m<k)))(a:Dl .none x xs lo hi ρ)(h0:l0<=lo)(h:lo<hi)(hh:hi<=xs.length):
 ∃ρ',(E W (n+6)).ss DX.sc (AB ND) ρ=some (.next,ρ')/\(if(lo+hi)/2<k then Dl .none x xs ((lo+hi)/2+1) hi ρ' else Dl .none x xs lo ((lo+hi)/2) ρ'):=by
 have hm:(lo+hi)/2<xs.length:=by exact A7 0x26c310124a312116a211114a4211121601 Aa hh h (Nat.div_mul_le_self _ _)
 obtain⟨v,hv⟩:∃v,xs[(lo+hi)/2]? =some v:=⟨_,List.getElem?_eq_getElem hm⟩
 have hc:=hc _ _ (by exact A7 0x24c213116a110124a013116a4222162141101 Aa h h0 (Nat.lt_div_mul_add (by decide))) hv
 have e0:AQ (E W (n+5)) tp W DX.sc (at' (AB ND) 0) ρ=some (.next,bR .none lo hi x xs ((lo+hi)/2:Nat)):=by
  rw[<-NH]
  obtain rfl|⟨_,rfl⟩:=a<;>rfl
 by_cases c:(lo+hi)/2<k
 ·rw[decide_eq_true c] at hc
  exact⟨_,Aq e0 (A3 (AZ (B1 hx.2.2 (DN rfl hx.1 hx.2.1) (BM rfl rfl rfl (DW hv (by exact Ac 0x16c186a0531116a011116a186a05301 Aa hm hn)) rfl rfl) hc rfl) rfl)),by rw[if_pos c];exact .inr ⟨_,rfl⟩⟩
 ·rw[decide_eq_false c] at hc
  exact⟨_,Aq e0 (A3 (B3 (B1 hx.2.2 (DN rfl hx.1 hx.2.1) (BM rfl rfl rfl (DW hv (by exact Ac 0x16c186a0531116a011116a186a05301 Aa hm hn)) rfl rfl) hc rfl) rfl)),by rw[if_neg c];exact .inr ⟨_,rfl⟩⟩
theorem kH{kf:AV->AV}(Dg:∀v∈xs,Fn (E W (n+3)) g [v]=some (kf v))(hx:DU x)(hn:xs.length<100000)(hc:∀m v,l0<=m->xs[m]? =some v->Du .Lt (kf v) x=some (decide (m<k)))(a:Dl g x xs lo hi ρ)(h0:l0<=lo)(h:lo<hi)(hh:hi<=xs.length):
 ∃ρ',(E W (n+6)).ss DQ.sc (AB MP) ρ=some (.next,ρ')/\(if(lo+hi)/2<k then Dl g x xs ((lo+hi)/2+1) hi ρ' else Dl g x xs lo ((lo+hi)/2) ρ'):=by
 have hm:(lo+hi)/2<xs.length:=by exact A7 0x26c310124a312116a211114a4211121601 Aa hh h (Nat.div_mul_le_self _ _)
 obtain⟨v,hv⟩:∃v,xs[(lo+hi)/2]? =some v:=⟨_,List.getElem?_eq_getElem hm⟩
 have hc:=hc _ _ (by exact A7 0x24c213116a110124a013116a4222162141101 Aa h h0 (Nat.lt_div_mul_add (by decide))) hv
 have e0:AQ (E W (n+5)) tp W DQ.sc (at' (AB MP) 0) ρ=some (.next,bR g lo hi x xs ((lo+hi)/2:Nat)):=by
  rw[<-NH]
  obtain rfl|⟨_,rfl⟩:=a<;>rfl
 by_cases c:(lo+hi)/2<k
 ·rw[decide_eq_true c] at hc
  exact⟨_,Aq e0 (A3 (B3 (B1 rfl (K8 rfl (Bp (BM rfl rfl rfl (DW hv (by exact Ac 0x16c186a0531116a011116a186a05301 Aa hm hn)) rfl rfl) rfl) (Dg _ (List.mem_of_getElem? hv)) rfl rfl rfl) (DN rfl hx.1 hx.2.1) hc rfl) rfl)),by rw[if_pos c];exact .inr ⟨_,rfl⟩⟩
 ·rw[decide_eq_false c] at hc
  exact⟨_,Aq e0 (A3 (AZ (B1 rfl (K8 rfl (Bp (BM rfl rfl rfl (DW hv (by exact Ac 0x16c186a0531116a011116a186a05301 Aa hm hn)) rfl rfl) rfl) (Dg _ (List.mem_of_getElem? hv)) rfl rfl rfl) (DN rfl hx.1 hx.2.1) hc rfl) rfl)),by rw[if_neg c];exact .inr ⟨_,rfl⟩⟩
theorem oB{kf:AV->AV}(Dg:∀v∈xs,Fn (E W (n+3)) g [v]=some (kf v))(hx:DU x)(hn:xs.length<100000)(hc:∀m v,l0<=m->xs[m]? =some v->Du .Lt x (kf v)=some (!decide (m<k)))(a:Dl g x xs lo hi ρ)(h0:l0<=lo)(h:lo<hi)(hh:hi<=xs.length):
 ∃ρ',(E W (n+6)).ss DX.sc (AB MZ) ρ=some (.next,ρ')/\(if(lo+hi)/2<k then Dl g x xs ((lo+hi)/2+1) hi ρ' else Dl g x xs lo ((lo+hi)/2) ρ'):=by
 have hm:(lo+hi)/2<xs.length:=by exact A7 0x26c310124a312116a211114a4211121601 Aa hh h (Nat.div_mul_le_self _ _)
 obtain⟨v,hv⟩:∃v,xs[(lo+hi)/2]? =some v:=⟨_,List.getElem?_eq_getElem hm⟩
 have hc:=hc _ _ (by exact A7 0x24c213116a110124a013116a4222162141101 Aa h h0 (Nat.lt_div_mul_add (by decide))) hv
 have e0:AQ (E W (n+5)) tp W DX.sc (at' (AB MZ) 0) ρ=some (.next,bR g lo hi x xs ((lo+hi)/2:Nat)):=by
  rw[<-NH]
  obtain rfl|⟨_,rfl⟩:=a<;>rfl
 by_cases c:(lo+hi)/2<k
 ·rw[decide_eq_true c] at hc
  exact⟨_,Aq e0 (A3 (AZ (B1 hx.2.2 (DN rfl hx.1 hx.2.1) (K8 rfl (Bp (BM rfl rfl rfl (DW hv (by exact Ac 0x16c186a0531116a011116a186a05301 Aa hm hn)) rfl rfl) rfl) (Dg _ (List.mem_of_getElem? hv)) rfl rfl rfl) hc rfl) rfl)),by rw[if_pos c];exact .inr ⟨_,rfl⟩⟩
 ·rw[decide_eq_false c] at hc
  exact⟨_,Aq e0 (A3 (B3 (B1 hx.2.2 (DN rfl hx.1 hx.2.1) (K8 rfl (Bp (BM rfl rfl rfl (DW hv (by exact Ac 0x16c186a0531116a011116a186a05301 Aa hm hn)) rfl rfl) rfl) (Dg _ (List.mem_of_getElem? hv)) rfl rfl rfl) hc rfl) rfl)),by rw[if_neg c];exact .inr ⟨_,rfl⟩⟩
theorem Nt{p:Pos}{q:Scope×Arguments×PySem.Expr×List (Str×AV)}{kk:Const}{p':Pos}(h:Ji sc e ρ=some q)(hk:kk=.none):(A1 top W (n+1)).t sc (.Compare e [.Is] [.Constant kk j p'] p) ρ=some (false,ρ):=by
 subst hk
 refine Ab (x:=.Is) rfl (Ab (x:=.Constant .none j p') rfl (Ab (AF rfl) ?_))
 show(match Ji sc e ρ with|some _=>_|none=>_)=_
 rw[h]
 rfl
variable {q:Scope×Arguments×PySem.Expr×List (Str×AV)}
theorem P0(hx:DU x)(hn:xs.length<100000)(hW:xs.length<W)(hc:∀m v,lo<=m->xs[m]? =some v->Du .Lt v x=some (decide (m<k)))(hk:lo<=k)(Dt:k<=xs.length):
 ∃ρ',BZ (E W (n+8)) DQ [("a",.list xs),("x",x),("lo",.int lo),("hi",.none),("key",.none)]=some (.int k,ρ'):=by
 have z:Dl .none x xs lo xs.length (Lb .none lo xs.length x xs):=.inl rfl
 have loop:=JW (test:=(E W (n+6)).t DQ.sc (Kh Om)) (body:=(E W (n+6)).ss DQ.sc (AB Om)) (At:=Dl .none x xs) (k:=k) (len:=xs.length) (l0:=lo) (by
  intro lo hi ρ a
  obtain rfl|⟨_,rfl⟩:=a<;>rfl) (λa h0 h hh=>kO hx hn hc a h0 h hh) (W:=W) (by exact Ap 0x16c210116a211114a1101 Aa hW (Nat.sub_le _ _)) (Nat.le_refl _) hk Dt (Nat.le_refl _) z
 revert loop;refine Cw λρ' h1 h2=>?_
 have neg:decide ((lo:Int)<0)=false:=decide_eq_false (by exact Ah 0x13c02701 Aa)
 have CY:AQ (E W (n+7)) tp W DQ.sc (at' DQ.body 3) ρ'=some (.ret (.int k),ρ'):=by
  obtain rfl|⟨_,rfl⟩:=h2<;>rfl
 refine⟨ρ',Cz (Aq (AZ (Br neg rfl) rfl) (Aq (B3 rfl (A3 (BK (Dn rfl rfl rfl (Nat.le_of_lt hn) rfl rfl) rfl rfl))) (Aq (B3 rfl (A3 (Ki h1))) (A3 CY)))) rfl⟩
theorem oQ(hx:DU x)(hn:xs.length<100000)(hW:xs.length<W)(hc:∀m v,lo<=m->xs[m]? =some v->Du .Lt x v=some (!decide (m<k)))(hk:lo<=k)(Dt:k<=xs.length):
 ∃ρ',BZ (E W (n+8)) DX [("a",.list xs),("x",x),("lo",.int lo),("hi",.none),("key",.none)]=some (.int k,ρ'):=by
 have z:Dl .none x xs lo xs.length (Lb .none lo xs.length x xs):=.inl rfl
 have loop:=JW (test:=(E W (n+6)).t DX.sc (Kh ND)) (body:=(E W (n+6)).ss DX.sc (AB ND)) (At:=Dl .none x xs) (k:=k) (len:=xs.length) (l0:=lo) (by
  intro lo hi ρ a
  obtain rfl|⟨_,rfl⟩:=a<;>rfl) (λa h0 h hh=>o6 hx hn hc a h0 h hh) (W:=W) (by exact Ap 0x16c210116a211114a1101 Aa hW (Nat.sub_le _ _)) (Nat.le_refl _) hk Dt (Nat.le_refl _) z
 revert loop;refine Cw λρ' h1 h2=>?_
 have neg:decide ((lo:Int)<0)=false:=decide_eq_false (by exact Ah 0x13c02701 Aa)
 have CY:AQ (E W (n+7)) tp W DX.sc (at' DX.body 3) ρ'=some (.ret (.int k),ρ'):=by
  obtain rfl|⟨_,rfl⟩:=h2<;>rfl
 refine⟨ρ',Cz (Aq (AZ (Br neg rfl) rfl) (Aq (B3 rfl (A3 (BK (Dn rfl rfl rfl (Nat.le_of_lt hn) rfl rfl) rfl rfl))) (Aq (B3 rfl (A3 (Ki h1))) (A3 CY)))) rfl⟩
theorem V0{kf:AV->AV}(Dg:∀v∈xs,Fn (E W (n+3)) g [v]=some (kf v))(RE:g.clo?=some q)(hx:DU x)(hn:xs.length<100000)(hW:xs.length<W)(hc:∀m v,lo<=m->xs[m]? =some v->Du .Lt (kf v) x=some (decide (m<k)))(hk:lo<=k)(Dt:k<=xs.length):
 ∃ρ',BZ (E W (n+8)) DQ [("a",.list xs),("x",x),("lo",.int lo),("hi",.none),("key",g)]=some (.int k,ρ'):=by
 have z:Dl g x xs lo xs.length (Lb g lo xs.length x xs):=.inl rfl
 have loop:=JW (test:=(E W (n+6)).t DQ.sc (Kh MP)) (body:=(E W (n+6)).ss DQ.sc (AB MP)) (At:=Dl g x xs) (k:=k) (len:=xs.length) (l0:=lo) (by
  intro lo hi ρ a
  obtain rfl|⟨_,rfl⟩:=a<;>rfl) (λa h0 h hh=>kH Dg hx hn hc a h0 h hh) (W:=W) (by exact Ap 0x16c210116a211114a1101 Aa hW (Nat.sub_le _ _)) (Nat.le_refl _) hk Dt (Nat.le_refl _) z
 revert loop;refine Cw λρ' h1 h2=>?_
 have neg:decide ((lo:Int)<0)=false:=decide_eq_false (by exact Ah 0x13c02701 Aa)
 have CY:AQ (E W (n+7)) tp W DQ.sc (at' DQ.body 3) ρ'=some (.ret (.int k),ρ'):=by
  obtain rfl|⟨_,rfl⟩:=h2<;>rfl
 refine⟨ρ',Cz (Aq (AZ (Br neg rfl) rfl) (Aq (B3 rfl (A3 (BK (Dn rfl rfl rfl (Nat.le_of_lt hn) rfl rfl) rfl rfl))) (Aq (AZ (Nt RE rfl) (A3 (Ki h1))) (A3 CY)))) rfl⟩
theorem dE{kf:AV->AV}(Dg:∀v∈xs,Fn (E W (n+3)) g [v]=some (kf v))(RE:g.clo?=some q)(hx:DU x)(hn:xs.length<100000)(hW:xs.length<W)(hc:∀m v,lo<=m->xs[m]? =some v->Du .Lt x (kf v)=some (!decide (m<k)))(hk:lo<=k)(Dt:k<=xs.length):
 ∃ρ',BZ (E W (n+8)) DX [("a",.list xs),("x",x),("lo",.int lo),("hi",.none),("key",g)]=some (.int k,ρ'):=by
 have z:Dl g x xs lo xs.length (Lb g lo xs.length x xs):=.inl rfl
 have loop:=JW (test:=(E W (n+6)).t DX.sc (Kh MZ)) (body:=(E W (n+6)).ss DX.sc (AB MZ)) (At:=Dl g x xs) (k:=k) (len:=xs.length) (l0:=lo) (by
  intro lo hi ρ a
  obtain rfl|⟨_,rfl⟩:=a<;>rfl) (λa h0 h hh=>oB Dg hx hn hc a h0 h hh) (W:=W) (by exact Ap 0x16c210116a211114a1101 Aa hW (Nat.sub_le _ _)) (Nat.le_refl _) hk Dt (Nat.le_refl _) z
 revert loop;refine Cw λρ' h1 h2=>?_
 have neg:decide ((lo:Int)<0)=false:=decide_eq_false (by exact Ah 0x13c02701 Aa)
 have CY:AQ (E W (n+7)) tp W DX.sc (at' DX.body 3) ρ'=some (.ret (.int k),ρ'):=by
  obtain rfl|⟨_,rfl⟩:=h2<;>rfl
 refine⟨ρ',Cz (Aq (AZ (Br neg rfl) rfl) (Aq (B3 rfl (A3 (BK (Dn rfl rfl rfl (Nat.le_of_lt hn) rfl rfl) rfl rfl))) (Aq (AZ (Nt RE rfl) (A3 (Ki h1))) (A3 CY)))) rfl⟩
end
section
variable {x:AV} {a:Scope} {b:Arguments} {c:PySem.Expr} {d:List (Str×AV)}
theorem kB(hx:DU x)(hn:xs.length<100000)(hW:xs.length<W)(hc:∀m v,xs[m]? =some v->Du .Lt v x=some (decide (m<k)))(hk:k<=xs.length):
 ∃ρ',BZ (E W (n+13)) NZ [("a",.ol xs),("x",x),("lo",.int 0),("hi",.none),("key",.none)]=some (.none,ρ')/\ρ'.get "a"=some (.ol (xs.take k++x::xs.drop k)):=by
 obtain⟨ρ',h⟩:=P0 (n:=n+2) (lo:=0) hx hn hW (λm v _ h=>hc m v h) (Nat.zero_le _) hk
 refine⟨_,Lz (Aq (B3 rfl (A3 (BK (L3 rfl (B7 (DN rfl hx.1 hx.2.1) (B7 rfl (B7 rfl JL rfl) rfl) rfl) rfl rfl (CV Ly rfl h) rfl rfl rfl rfl rfl) rfl rfl))) (A3 (DM (B7 rfl (Bp (DN rfl hx.1 hx.2.1) rfl) rfl) rfl rfl (Nk hn hk) rfl rfl))) rfl,rfl⟩
theorem dI(hx:DU x)(hn:xs.length<100000)(hW:xs.length<W)(hc:∀m v,xs[m]? =some v->Du .Lt x v=some (!decide (m<k)))(hk:k<=xs.length):
 ∃ρ',BZ (E W (n+13)) NC [("a",.ol xs),("x",x),("lo",.int 0),("hi",.none),("key",.none)]=some (.none,ρ')/\ρ'.get "a"=some (.ol (xs.take k++x::xs.drop k)):=by
 obtain⟨ρ',h⟩:=oQ (n:=n+2) (lo:=0) hx hn hW (λm v _ h=>hc m v h) (Nat.zero_le _) hk
 refine⟨_,Lz (Aq (B3 rfl (A3 (BK (L3 rfl (B7 (DN rfl hx.1 hx.2.1) (B7 rfl (B7 rfl JL rfl) rfl) rfl) rfl rfl (CV Vw rfl h) rfl rfl rfl rfl rfl) rfl rfl))) (A3 (DM (B7 rfl (Bp (DN rfl hx.1 hx.2.1) rfl) rfl) rfl rfl (Nk hn hk) rfl rfl))) rfl,rfl⟩
theorem eJ{kf:AV->AV}(Dg:Fn (E W (n+9)) (.clo a b c d) [x]=some (kf x))(RC:∀v∈xs,Fn (E W (n+5)) (.clo a b c d) [v]=some (kf v))(hx:DU x)(FW:DU (kf x))(hn:xs.length<100000)(hW:xs.length<W)(hc:∀m v,xs[m]? =some v->Du .Lt (kf v) (kf x)=some (decide (m<k)))(hk:k<=xs.length):
 ∃ρ',BZ (E W (n+13)) NZ [("a",.ol xs),("x",x),("lo",.int 0),("hi",.none),("key",(.clo a b c d))]=some (.none,ρ')/\ρ'.get "a"=some (.ol (xs.take k++x::xs.drop k)):=by
 obtain⟨ρ',h⟩:=V0 (n:=n+2) (lo:=0) RC rfl FW hn hW (λm v _ h=>hc m v h) (Nat.zero_le _) hk
 refine⟨_,Lz (Aq (AZ (Nt rfl rfl) (A3 (BK (L3 rfl (B7 (K8 rfl (Bp (DN rfl hx.1 hx.2.1) rfl) Dg rfl rfl rfl) (B7 rfl (B7 rfl JL rfl) rfl) rfl) rfl rfl (CV Ly rfl h) rfl rfl rfl rfl rfl) rfl rfl))) (A3 (DM (B7 rfl (Bp (DN rfl hx.1 hx.2.1) rfl) rfl) rfl rfl (Nk hn hk) rfl rfl))) rfl,rfl⟩
theorem j5{kf:AV->AV}(Dg:Fn (E W (n+9)) (.clo a b c d) [x]=some (kf x))(RC:∀v∈xs,Fn (E W (n+5)) (.clo a b c d) [v]=some (kf v))(hx:DU x)(FW:DU (kf x))(hn:xs.length<100000)(hW:xs.length<W)(hc:∀m v,xs[m]? =some v->Du .Lt (kf x) (kf v)=some (!decide (m<k)))(hk:k<=xs.length):
 ∃ρ',BZ (E W (n+13)) NC [("a",.ol xs),("x",x),("lo",.int 0),("hi",.none),("key",(.clo a b c d))]=some (.none,ρ')/\ρ'.get "a"=some (.ol (xs.take k++x::xs.drop k)):=by
 obtain⟨ρ',h⟩:=dE (n:=n+2) (lo:=0) RC rfl FW hn hW (λm v _ h=>hc m v h) (Nat.zero_le _) hk
 refine⟨_,Lz (Aq (AZ (Nt rfl rfl) (A3 (BK (L3 rfl (B7 (K8 rfl (Bp (DN rfl hx.1 hx.2.1) rfl) Dg rfl rfl rfl) (B7 rfl (B7 rfl JL rfl) rfl) rfl) rfl rfl (CV Vw rfl h) rfl rfl rfl rfl rfl) rfl rfl))) (A3 (DM (B7 rfl (Bp (DN rfl hx.1 hx.2.1) rfl) rfl) rfl rfl (Nk hn hk) rfl rfl))) rfl,rfl⟩
end
noncomputable def GO:BG:=defAt tp 13
theorem mX:B4 tp "_law_queue"=some GO:=rfl
noncomputable def BA(p:Nat×Str):AV:=.tup [.int p.1,.str p.2]
noncomputable def Bw(cm:List (List Str)):AV:=.list (cm.map λc=>.list (c.map .str))
noncomputable def LV:Stmt:=at' GO.body 2
noncomputable def LA:Stmt:=at' (AB LV) 0
noncomputable def Lr:Stmt:=at' (AB LV) 1
noncomputable def eZ:Stmt->List Keyword
 |.Expr (.Call _ _ k _) _=>k
 |_=>[]
noncomputable def US(s:Stmt):AV:=match eZ (at' (AB s) 0) with
 |[k]=>match NG k.value with
  |some (ps,body,scope)=>.clo scope ps body []
  |none=>.none
 |_=>.none
theorem Uq(p:Nat×Str):Fn (E W (n+3)) (US LA) [BA p]=some (.int p.1):=rfl
theorem SI(p:Nat×Str):Fn (E W (n+3)) (US Lr) [BA p]=some (.int p.1):=rfl
noncomputable def kf:AV->AV
 |.tup (a::_)=>a
 |_=>.none
theorem S3{L:List (Nat×Str)}{v:AV}(h:v∈L.map BA):∃p∈L,v=BA p:=by
 refine Ak (List.mem_map.mp h) λp hp e=>?_
 exact⟨p,hp,e.symm⟩
theorem Tg{L:List (Nat×Str)}{lo hi:Nat->Prop}(h1:∀p∈L.take k,lo p.1)(h2:∀p∈L.drop k,hi p.1){v:AV}(hv:(L.map BA)[m]? =some v):∃p,v=BA p/\(m<k->lo p.1)/\(¬m<k->hi p.1):=by
 rw[List.getElem?_map] at hv
 cases e:L[m]? with
 |none=>rw[e] at hv;cases hv
 |some p=>
  rw[e] at hv
  (revert hv;refine As λc0=>?_;subst c0)
  refine⟨p,rfl,λc=>h1 p ?_,λc=>h2 p ?_⟩
  ·exact List.mem_of_getElem? (i:=m) (by rw[List.getElem?_take,if_pos c,e])
  ·exact List.mem_of_getElem? (i:=m - k) (by rw[List.getElem?_drop,show k+(m - k)=m by exact Nat.le_antisymm (Ap 0x14c214011114b2141101 Aa (Nat.sub_add_cancel (Ac 0x14c011117a1101 Aa c))) (Ap 0x14c411210114a4211101 Aa Bl),e])
theorem U8(p:Nat×Str):DU (BA p):=⟨rfl,rfl,rfl⟩
theorem Vy(i:Int):DU (.int i):=⟨rfl,rfl,rfl⟩
noncomputable def qF(c:AV)(q t:List (Nat×Str))(tl:List (Str×AV))(sh:Str->Bool):R:=⟨("come",c)::("queue",.ol (q.map BA))::("turned",.ol (t.map BA))::tl,sh⟩
theorem Vc(A B:List (Nat×Str))(p:Nat×Str):((A++B).map BA).take A.length++BA p::((A++B).map BA).drop A.length=(A++[p]++B).map BA:=by simp
theorem dV{c:AV}{A t:List (Nat×Str)}{s:Str}(hA:∀p∈A,p.1<=h)(hB:∀p∈B,h<p.1)(hn:(A++B).length<1000)(hW:(A++B).length<W):
 (E W (n+15)).ss GO.sc (AB LA) (qF c (A++B) t [("hour",.int h),("name",.str s)] sh)=some (.next,qF c (A++[(h,s)]++B) t [("hour",.int h),("name",.str s)] λ_=>true):=by
 have len:((A++B).map BA).length=(A++B).length:=List.length_map _
 refine Ak (j5 (W:=W) (n:=n) (kf:=kf) (x:=BA (h,s)) (xs:=(A++B).map BA) (k:=A.length) (d:=[]) (Uq (h,s)) (λv hv=>by
  obtain⟨p,_,rfl⟩:=S3 hv
  exact Uq p) (U8 _) (Vy _) (by rw[len];exact Ah 0x16c186a0530116a3e83301 Aa hn) (by rw[len];exact hW) (λm v hv=>by
  obtain⟨p,rfl,z1,z2⟩:=Tg (k:=A.length) (lo:= λx=>x<=h) (hi:= λx=>h<x) (by simpa using hA) (by simpa using hB) hv
  show some (decide ((h:Int)<(p.1:Int)))=_
  congr 1
  by_cases q:m<A.length
  ·have:=z1 q;rw[decide_eq_false (by exact Ac 0x13c70171114a1101 Aa this),decide_eq_true q];rfl
  ·have:=z2 q;rw[decide_eq_true (by exact Ac 0x12c71170116a1101 Aa this),decide_eq_false q];rfl) (by rw[len];simp)) λρ' h1 h2=>?_
 refine A3 (MY (Og rfl U3 (Bp rfl rfl) rfl (NN rfl h1 h2 rfl rfl rfl) rfl rfl rfl rfl ?_) rfl)
 exact congrArg (λz=>(⟨("come",c)::("queue",.ol z)::("turned",.ol (t.map BA))::[("hour",.int h),("name",.str s)],λ_=>true⟩:R)) (Vc A B (h,s))
theorem jO{c:AV}{A q:List (Nat×Str)}{s:Str}(hA:∀p∈A,p.1<h)(hB:∀p∈B,h<=p.1)(hn:(A++B).length<1000)(hW:(A++B).length<W):
 (E W (n+15)).ss GO.sc (AB Lr) (qF c q (A++B) [("hour",.int h),("name",.str s)] sh)=some (.next,qF c q (A++[(h,s)]++B) [("hour",.int h),("name",.str s)] λ_=>true):=by
 have len:((A++B).map BA).length=(A++B).length:=List.length_map _
 refine Ak (eJ (W:=W) (n:=n) (kf:=kf) (x:=BA (h,s)) (xs:=(A++B).map BA) (k:=A.length) (d:=[]) (SI (h,s)) (λv hv=>by
  obtain⟨p,_,rfl⟩:=S3 hv
  exact SI p) (U8 _) (Vy _) (by rw[len];exact Ah 0x16c186a0530116a3e83301 Aa hn) (by rw[len];exact hW) (λm v hv=>by
  obtain⟨p,rfl,z1,z2⟩:=Tg (k:=A.length) (lo:= λx=>x<h) (hi:= λx=>h<=x) (by simpa using hA) (by simpa using hB) hv
  show some (decide ((p.1:Int)<(h:Int)))=_
  congr 1
  by_cases q:m<A.length
  ·have:=z1 q;rw[decide_eq_true (by exact Ac 0x12c71170116a1101 Aa this),decide_eq_true q]
  ·have:=z2 q;rw[decide_eq_false (by exact Ac 0x13c70171114a1101 Aa this),decide_eq_false q]) (by rw[len];simp)) λρ' h1 h2=>?_
 refine A3 (MY (Og rfl UF (Bp rfl rfl) rfl (NN rfl h1 h2 rfl rfl rfl) rfl rfl rfl rfl ?_) rfl)
 exact congrArg (λz=>(⟨("come",c)::("queue",.ol (q.map BA))::("turned",.ol z)::[("hour",.int h),("name",.str s)],λ_=>true⟩:R)) (Vc A B (h,s))
noncomputable def qTl(h:Nat)(tl:List (Str×AV)):Prop:=tl=([("hour",.int h)]:List (Str×AV))∨∃v,tl=([("hour",.int h),("name",v)]:List (Str×AV))
noncomputable def AK(h:Nat)(c:List Str):List (Nat×Str):=c.map λs=>(h,s)
noncomputable abbrev gI(W n:Nat):=forTurn (E W (n+15)) GO.sc (BD LA) (AB LA)
noncomputable abbrev cM(W n:Nat):=forTurn (E W (n+15)) GO.sc (BD Lr) (AB Lr)
theorem qTl.tgt(z:qTl h tl){c:AV}{q t:List (Nat×Str)}(s:Str):BS GO.sc (BD LA) (.str s) (qF c q t tl sh)=some (qF c q t [("hour",.int h),("name",.str s)] sh)/\
 BS GO.sc (BD Lr) (.str s) (qF c q t tl sh)=some (qF c q t [("hour",.int h),("name",.str s)] sh):=by
 obtain rfl|⟨_,rfl⟩:=z<;>exact⟨rfl,rfl⟩
theorem l7{c:AV}{t:List (Nat×Str)}(hB:∀p∈B,h<p.1):∀{cs:List Str} {A:List (Nat×Str)} {tl:List (Str×AV)} {sh:Str->Bool},(∀p∈A,p.1<=h)->(A++B).length+cs.length<1000->(A++B).length+cs.length<W->qTl h tl->
 ∃AJ HD,BP (gI W n) (cs.map .str) (qF c (A++B) t tl sh)=some (.next,qF c (A++AK h cs++B) t AJ HD)/\qTl h AJ:=by
 intro Al
 induction Al with
 |nil=>
  intro A tl sh _ _ _ z
  exact⟨tl,sh,by rw[show A++AK h []++B=A++B by simp[AK]];rfl,z⟩
 |cons s cs zih=>
  intro A tl sh hA h1 h2 z
  refine Dc (zih (A:=A++[(h,s)]) (tl:=([("hour",.int h),("name",.str s)]:List (Str×AV))) (sh:= λ_=>true) (by simpa [or_imp,forall_and] using hA) (by simp at h1 ⊢;exact Ap 0x16c3e8334214412110116a3e83344122141101 Aa h1) (by simp at h2 ⊢;exact A7 0x16c314214412110116a3144122141101 Aa h2) (.inr ⟨_,rfl⟩)) λAJ HD e z'=>?_
  refine⟨AJ,HD,BH (turn (z.tgt s).1 (dV hA hB (by exact Ac 0x16c3e8330116a3e83341101 Aa h1) (by exact Ap 0x16c210116a2141101 Aa h2))) ?_,z'⟩
  rw[e]
  simp[AK]
theorem bS{c:AV}{A q:List (Nat×Str)}(hA:∀p∈A,p.1<h):∀{cs:List Str} {B:List (Nat×Str)} {tl:List (Str×AV)} {sh:Str->Bool},(∀p∈B,h<=p.1)->(A++B).length+cs.length<1000->(A++B).length+cs.length<W->qTl h tl->
 ∃AJ HD,BP (cM W n) (cs.map .str) (qF c q (A++B) tl sh)=some (.next,qF c q (A++AK h cs.reverse++B) AJ HD)/\qTl h AJ:=by
 intro Al
 induction Al with
 |nil=>
  intro B tl sh _ _ _ z
  exact⟨tl,sh,by rw[show A++AK h [].reverse++B=A++B by simp[AK]];rfl,z⟩
 |cons s cs zih=>
  intro B tl sh hB h1 h2 z
  refine Dc (zih (B:=(h,s)::B) (tl:=([("hour",.int h),("name",.str s)]:List (Str×AV))) (sh:= λ_=>true) (by simpa [or_imp,forall_and] using hB) (by simp at h1 ⊢;exact Ap 0x16c3e8334214412110116a3e83344122141101 Aa h1) (by simp at h2 ⊢;exact A7 0x16c314214412110116a3144122141101 Aa h2) (.inr ⟨_,rfl⟩)) λAJ HD e z'=>?_
  refine⟨AJ,HD,BH (turn (z.tgt s).2 (jO hA hB (by exact Ac 0x16c3e8330116a3e83341101 Aa h1) (by exact Ap 0x16c210116a2141101 Aa h2))) ?_,z'⟩
  rw[show A++[(h,s)]++B=A++(h,s)::B by simp,e]
  simp[AK]
noncomputable def qTl0(tl:List (Str×AV)):Prop:=tl=[]∨∃h,qTl h tl
theorem qTl0.tgt(z:qTl0 tl){c:AV}{q t:List (Nat×Str)}(h:Nat):∃AJ,BS GO.sc (BD LV) (.int h) (qF c q t tl sh)=some (qF c q t AJ sh)/\qTl h AJ:=by
 obtain rfl|⟨h',rfl|⟨_,rfl⟩⟩:=z
 ·exact⟨_,rfl,.inl rfl⟩
 ·exact⟨_,rfl,.inl rfl⟩
 ·exact⟨_,rfl,.inr ⟨_,rfl⟩⟩
noncomputable abbrev WC(W n:Nat):=forTurn (E W (n+16)) GO.sc (BD LV) (AB LV)
theorem Kz{A:List (Nat×Str)}{cs:List Str}(hc:cm[h]? =some cs)(h2:cs.length<=2)(hh:h<100)(hA:∀p∈A,p.1<h)(hB:∀p∈B,h<p.1)(hn:(A++B).length+2<1000)(hW:(A++B).length+2<W)(z:qTl0 tl):
 ∃AJ HD,WC W n (.int h) (qF (Bw cm) (A++B) (A++B) tl sh)=some (.next,qF (Bw cm) (A++AK h cs++B) (A++AK h cs++B) AJ HD)/\qTl0 AJ:=by
 refine Ak (z.tgt (c:=Bw cm) (q:=A++B) (t:=A++B) (sh:=sh) h) λu0 HE Xu=>?_
 refine Dc (l7 (W:=W) (n:=n) (c:=Bw cm) (t:=A++B) hB (cs:=cs) (A:=A) (tl:=u0) (sh:=sh) (λp hp=>Nat.le_of_lt (hA p hp)) (by exact Ac 0x16c3e8334011116a3e8334221114a2201 Aa hn h2) (by exact Ap 0x16c214011116a214221114a2201 Aa hW h2) Xu) λX1 Xi I7 XI=>?_
 refine Dc (bS (W:=W) (n:=n) (c:=Bw cm) (q:=A++AK h cs++B) hA (cs:=cs.reverse) (B:=B) (tl:=X1) (sh:=Xi) (λp hp=>Nat.le_of_lt (hB p hp)) (by simp at hn ⊢;exact Ap 0x16c3e8334014211116a3e8334224211114a2201 Aa hn h2) (by simp at hW ⊢;exact A7 0x16c314014211116a314224211114a2201 Aa hW h2) XI) λqN pK Jx rX=>?_
 rw[List.reverse_reverse] at Jx
 have hv:(cm.map λc=>AV.list (c.map .str))[h]? =some (.list (cs.map .str)):=by rw[List.getElem?_map,hc];rfl
 have hs:D5 (.list (cs.map .str)) none none (some (-1))=some (.list (cs.reverse.map .str)):=by
  match cs,h2 with
  |[],_=>rfl
  |[a],_=>with_unfolding_all rfl
  |[a,b],_=>with_unfolding_all rfl
 refine⟨qN,pK,turn HE (Aq (ρ1:=qF (Bw cm) (A++AK h cs++B) (A++B) X1 Xi) ?_ (A3 ?_)),.inr ⟨h,rX⟩⟩
 ·obtain rfl|⟨_,rfl⟩:=Xu
  ·exact E0 rfl rfl (Cr (BM rfl rfl rfl (DW hv (by exact Ah 0x16c186a0530116a642301 Aa hh)) rfl rfl) rfl rfl) I7
  ·exact E0 rfl rfl (Cr (BM rfl rfl rfl (DW hv (by exact Ah 0x16c186a0530116a642301 Aa hh)) rfl rfl) rfl rfl) I7
 ·obtain rfl|⟨_,rfl⟩:=XI
  ·exact E0 rfl rfl (Cr (Dm rfl (BM rfl rfl rfl (DW hv (by exact Ah 0x16c186a0530116a642301 Aa hh)) rfl rfl) rfl hs) rfl rfl) Jx
  ·exact E0 rfl rfl (Cr (Dm rfl (BM rfl rfl rfl (DW hv (by exact Ah 0x16c186a0530116a642301 Aa hh)) rfl rfl) rfl hs) rfl rfl) Jx
theorem H3{g:Nat}{c:List Str}(hh:h<g):∀p∈AK h c,p.1<g:=by
 intro p hp
 refine Ak (List.mem_map.mp hp) λ_ _ Ar=>?_;obtain rfl:=Ar
 exact hh
theorem K5{g:Nat}{c:List Str}(hh:g<h):∀p∈AK h c,g<p.1:=by
 intro p hp
 refine Ak (List.mem_map.mp hp) λ_ _ Ar=>?_;obtain rfl:=Ar
 exact hh
theorem I1{P:Nat×Str->Prop}{a b:List (Nat×Str)}(ha:∀p∈a,P p)(hb:∀p∈b,P p):∀p∈a++b,P p:= λp h=>(List.mem_append.mp h).elim (ha p) (hb p)
theorem EM(h:Nat)(c:List Str):(AK h c).length=c.length:=List.length_map _
theorem Z0{c3:List Str}(h0:c0.length<=2)(h1:c1.length<=2)(h2:c2.length<=2)(h3:c3.length<=2)(h4:c4.length<=2)(h5:c5.length<=2)(hW:20<W):
 ∃ρ',BL (E W (n+17)) tp "_law_queue" [Bw [c0,c1,c2,c3,c4,c5]] []=some (.tup [.list ((AK 0 c0++AK 1 c1++AK 2 c2++AK 3 c3++AK 4 c4++AK 5 c5).map BA),.list ((AK 0 c0++AK 1 c1++AK 2 c2++AK 3 c3++AK 4 c4++AK 5 c5).map BA)],ρ'):=by
 refine Dc (Kz (W:=W) (n:=n) (cm:=[c0,c1,c2,c3,c4,c5]) (A:=[]) (B:=[]) (h:=3) (tl:=([]:List (Str×AV))) (sh:= λ_=>false) rfl h3 (by exact AE 0x16c642332 Aa) (by simp) (by simp) (by simp only[List.length_append,EM,List.length_nil];exact AE 0x16c3e83342240202 Aa) (by simp only[List.length_append,EM,List.length_nil];exact Ah 0x16c014224020216a011423 Aa hW) (.inl rfl)) λMx qO e0 z0=>?_
 refine Dc (Kz (W:=W) (n:=n) (cm:=[c0,c1,c2,c3,c4,c5]) (A:=[]) (B:=AK 3 c3) (h:=0) (tl:=Mx) (sh:=qO) rfl h0 (by exact AE 0x16c642302 Aa) (by simp) ((K5 (by exact AE 0x16c3202 Aa))) (by simp only[List.length_append,EM,List.length_nil];exact Ah 0x16c3e8334224010214a2201 Aa h3) (by simp only[List.length_append,EM,List.length_nil];exact Ac 0x16c114224010216a11142314a2201 Aa hW h3) z0) λBX p8 e1 z1=>?_
 refine Dc (Kz (W:=W) (n:=n) (cm:=[c0,c1,c2,c3,c4,c5]) (A:=AK 0 c0++AK 3 c3) (B:=[]) (h:=4) (tl:=BX) (sh:=p8) rfl h4 (by exact AE 0x16c642342 Aa) ((I1 (H3 (by exact AE 0x16c4202 Aa)) (H3 (by exact AE 0x16c4232 Aa)))) (by simp) (by simp only[List.length_append,EM,List.length_nil];exact Ac 0x16c3e8334224024110114a221114a2201 Aa h3 h0) (by simp only[List.length_append,EM,List.length_nil];exact Ap 0x16c214224024110116a21142314a221114a2201 Aa hW h3 h0) z1) λC4 tY e2 z2=>?_
 refine Dc (Kz (W:=W) (n:=n) (cm:=[c0,c1,c2,c3,c4,c5]) (A:=AK 0 c0) (B:=AK 3 c3++AK 4 c4) (h:=1) (tl:=C4) (sh:=tY) rfl h1 (by exact AE 0x16c642312 Aa) ((H3 (by exact AE 0x16c1202 Aa))) ((I1 (K5 (by exact AE 0x16c3212 Aa)) (K5 (by exact AE 0x16c4212 Aa)))) (by simp only[List.length_append,EM,List.length_nil];exact Ap 0x16c3e8334224421110114a222114a221114a2201 Aa h4 h3 h0) (by simp only[List.length_append,EM,List.length_nil];exact A7 0x16c314224421110116a31142314a222114a221114a2201 Aa hW h4 h3 h0) z2) λEQ rZ e3 z3=>?_
 refine Dc (Kz (W:=W) (n:=n) (cm:=[c0,c1,c2,c3,c4,c5]) (A:=AK 0 c0++AK 1 c1++AK 3 c3++AK 4 c4) (B:=[]) (h:=5) (tl:=EQ) (sh:=rZ) rfl h5 (by exact AE 0x16c642352 Aa) ((I1 (I1 (I1 (H3 (by exact AE 0x16c5202 Aa)) (H3 (by exact AE 0x16c5212 Aa))) (H3 (by exact AE 0x16c5232 Aa))) (H3 (by exact AE 0x16c5242 Aa)))) (by simp) (by simp only[List.length_append,EM,List.length_nil];exact A7 0x16c3e8334224024314214110114a223114a222114a221114a2201 Aa h4 h3 h1 h0) (by simp only[List.length_append,EM,List.length_nil];exact AW 0x16c414224024314214110116a41142314a223114a222114a221114a2201 Aa hW h4 h3 h1 h0) z3) λJu qY e4 z4=>?_
 refine Dc (Kz (W:=W) (n:=n) (cm:=[c0,c1,c2,c3,c4,c5]) (A:=AK 0 c0++AK 1 c1) (B:=AK 3 c3++AK 4 c4++AK 5 c5) (h:=2) (tl:=Ju) (sh:=qY) rfl h2 (by exact AE 0x16c642322 Aa) ((I1 (H3 (by exact AE 0x16c2202 Aa)) (H3 (by exact AE 0x16c2212 Aa)))) ((I1 (I1 (K5 (by exact AE 0x16c3222 Aa)) (K5 (by exact AE 0x16c4222 Aa))) (K5 (by exact AE 0x16c5222 Aa)))) (by simp only[List.length_append,EM,List.length_nil];exact AW 0x16c3e8334224441431214110114a224114a223114a222114a221114a2201 Aa h5 h4 h3 h1 h0) (by simp only[List.length_append,EM,List.length_nil];exact Dy 0x16c514224441431214110116a51142314a224114a223114a222114a221114a2201 Aa hW h5 h4 h3 h1 h0) z4) λHB vT e5 z5=>?_
 simp only[List.append_assoc,List.append_nil,List.nil_append] at e0 e1 e2 e3 e4 e5 ⊢
 have run:BP (WC W n) [.int (3:Nat),.int (0:Nat),.int (4:Nat),.int (1:Nat),.int (5:Nat),.int (2:Nat)] (qF (Bw [c0,c1,c2,c3,c4,c5]) [] [] [] λ_=>false)=_:=BH e0 (BH e1 (BH e2 (BH e3 (BH e4 (BH e5 rfl)))))
 exact⟨_,CV mX rfl (Cz (Aq rfl (Aq rfl (Aq (E0 rfl rfl rfl run) (A3 (CB rfl))))) rfl)⟩
noncomputable def Rb:BG:=defAt tp 7
theorem bL:B4 tp "_law_lexer"=some Rb:=rfl
noncomputable def Nf:List Stmt:=CW tp
noncomputable def vM:BG:=defAt Nf 0
noncomputable def LF:BG:=defAt Nf 1
noncomputable def CM:BG:=defAt Nf 2
noncomputable def U1:BG:=defAt Nf 3
theorem Rc:B4 (CW tp) "_read_char"=some LF:=rfl
theorem Kl:B4 (CW tp) "get_token"=some CM:=rfl
theorem TQ:B4 (CW tp) "push_token"=some U1:=rfl
noncomputable def QO:Scope:=match JY Rb.body with
 |some (_,_,scope)=>scope
 |none=>default
noncomputable def QJ:PySem.Expr:=match JY Rb.body with
 |some (_,b,_)=>b
 |none=>default
theorem Yx{v:AV}(h:(v::rest).length<Bg):(E W (n+5)).e QO QJ ⟨[("size",.int 1),("signs",.ol (v::rest))],λ_=>true⟩=some (v,⟨[("size",.int 1),("signs",.ol rest)],λ_=>true⟩):=
 PK (Pg (aZ rfl (Nat.le_of_lt h)) rfl) (iH rfl rfl rfl (Vl h) rfl rfl)
theorem YA:(E W (n+5)).e QO QJ ⟨[("size",.int 1),("signs",.ol [])],λ_=>true⟩=some (.str ⟨#[]⟩,⟨[("size",.int 1),("signs",.ol [])],λ_=>true⟩):=rfl
noncomputable def sg(l:List Nat):List AV:=l.map λc=>.str ⟨#[c]⟩
noncomputable def lx(l:Int)(q:List AV)(s:List Nat):AV:=.lex l q (sg s)
theorem WE{l:Int}{q s s':List AV}{u:AV}{p:Pos}(hx:Ca sc x ρ=some (.lex l q s))(hg:ρ.get x=some (.lex l q s))(ha:BY (E W (n+5)) sc [e] ρ=some ([.int 1],ρ))
 (h:(E W (n+5)).e QO QJ ⟨[("size",.int 1),("signs",.ol s)],λ_=>true⟩=some (u,C3)) (hi:C3.get "signs"=some (.ol s')) (hs:(([]:List Keyword).isEmpty&&ap.endLine==p.line&&decide (([e]:List PySem.Expr).length<=5))=true) (he:ρ.set x (.lex l q s')=AD):
 (E W (n+6)).e sc (.Call (.Attribute (.Attribute (.Name x qn) "instream" q1) "read" ap) [e] [] p) ρ=some (u,AD):=by
 subst he
 show Dd (E W (n+5)) tp sc (.Attribute (.Attribute (.Name x qn) "instream" q1) "read" ap) [e] [] p ρ=_
 refine Ab (x:=((PySem.Expr.Attribute (.Name x qn) "instream" q1,"read",ap):PySem.Expr×Str×Pos)) rfl (Ab (AF hs) ?_)
 show L9 (E W (n+5)) tp sc (.Name x qn) "instream" "read" [e] ρ=_
 refine Ab (x:=(x,l,q,s)) (Ab (x:=x) rfl (Ab hx rfl)) (Ab ha (Ab hg (Ab (x:=(l,q,s)) rfl ?_)))
 refine(if_neg (by decide)).trans ?_
 refine Ab (AF rfl) (Ab bL (Ab rfl (Ab rfl (Ab rfl (Ab (AF rfl) (Ab h (Ab hi (Ab (x:=s') rfl rfl))))))))
theorem YF(s:List Nat):(sg s).length=s.length:=List.length_map _
theorem S9{l:Int}{q:List AV}{c:Nat}{s:List Nat}(h:s.length<90000):∃ρ',BZ (E W (n+8)) LF [("self",lx l q (c::s))]=some (.str ⟨#[c]⟩,ρ')/\ρ'.get "self"=some (lx (if c=10 then l+1 else l) q s):=by
 have hl:(AV.str ⟨#[c]⟩::sg s).length<Bg:=by rw[List.length_cons,YF];show s.length+1<100000;exact Ah 0x16c186a0534120116a15f905301 Aa h
 have e0:AQ (E W (n+7)) tp W LF.sc (at' LF.body 0) ⟨[("self",lx l q (c::s))],λ_=>false⟩=some (.next,⟨[("self",lx l q s),("ch",.str ⟨#[c]⟩)],λ_=>false⟩):=
  BK (WE rfl rfl rfl (Yx hl) rfl rfl rfl) rfl rfl
 by_cases hc:c=10
 ·subst hc
  exact⟨_,Cz (Aq e0 (Aq (B3 rfl rfl) (A3 (CB rfl)))) rfl,rfl⟩
 ·have t:((⟨#[c]⟩:Str)=="\n")=false:=by
   rw[show(⟨#[c]⟩:Str)=S [c] from rfl,show("\n":Str)=S [10] from rfl,Ks]
   exact beq_false_of_ne (by simpa using hc)
  rw[if_neg hc]
  exact⟨_,Cz (Aq e0 (Aq (AZ (Br t rfl) rfl) (A3 (CB rfl)))) rfl,rfl⟩
theorem pE{l:Int}{q:List AV}:∃ρ',BZ (E W (n+8)) LF [("self",lx l q [])]=some (.str ⟨#[]⟩,ρ')/\ρ'.get "self"=some (lx l q []):=
 ⟨_,Cz (Aq (BK (WE rfl rfl rfl YA rfl rfl rfl) rfl rfl) (Aq (AZ rfl rfl) (A3 (CB rfl)))) rfl,rfl⟩
theorem DD{bs:List (Str×AV)}{l:Int}{q s s':List AV}{u:AV}(h:ρ.get x=some (.lex l q s))(hr:BZ r d bs=some (u,C3))(hi:C3.get y=some (.lex l' q' s'))(hb:D9 d.ps (.lex l q s::vs) ks=some bs)(hp:d.ps.args.head?=some pa)(he:pa.arg=y):Ho r d x vs ks ρ=some (u,ρ.set x (.lex l' q' s')):=
 Ab h (Ab (x:=(l,q,s)) rfl (Ab hp (Ab hb (Ab hr (Ab (x:=ρ.set x (.lex l' q' s')) (Ab (he▸hi) (Ab (x:=(l',q',s')) rfl rfl)) rfl)))))
noncomputable def gR(l:Int)(q:List AV)(s:List Nat)(t:Str)(live:Bool)(tl:List (Str×AV)):R:=⟨("self",lx l q s)::("token",.str t)::("fiter",.cit live)::tl,λ_=>false⟩
theorem F5{l:Int}{q:List AV}{c:Nat}{s:List Nat}{t:Str}{live:Bool}(h:s.length<90000):Ix (E W (n+8)) tp CM.sc (gR l q (c::s) t live tl)=some (.str ⟨#[c]⟩,gR (if c=10 then l+1 else l) q s t live tl):=by
 refine Ak (S9 (W:=W) (n:=n) (l:=l) (q:=q) (c:=c) h) λρ' h1 h2=>?_
 exact Ab (x:=lx l q (c::s)) rfl (Ab Rc (DD rfl h1 h2 rfl rfl rfl))
theorem Tw{l:Int}{q:List AV}{t:Str}{live:Bool}:Ix (E W (n+8)) tp CM.sc (gR l q [] t live tl)=some (.str ⟨#[]⟩,gR l q [] t live tl):=by
 refine Ak (pE (W:=W) (n:=n) (l:=l) (q:=q)) λρ' h1 h2=>?_
 exact Ab (x:=lx l q []) rfl (Ab Rc (DD rfl h1 h2 rfl rfl rfl))
section
variable {l:Int} {q:List AV} {s:List Nat} {t:List Nat} {c d:Nat}
noncomputable def ch(c:Nat):List (Str×AV):=[("ch",.str ⟨#[c]⟩)]
noncomputable def Vj:Stmt:=at' CM.body 3
noncomputable def UA:Stmt:=at' (AB Vj) 1
noncomputable def gQ:Stmt:=at' (ifB' UA) 0
where ifB':Stmt->List Stmt
 |.If _ b _ _=>b
 |_=>[]
noncomputable def Z3:List Stmt:=match UA with
 |.If _ _ o _=>o
 |_=>[]
noncomputable def gP:Stmt:=at' Z3 2
theorem S1(c:Nat):(⟨#[c]⟩:Str)=S [c]:=rfl
theorem Lp(a b:Nat):((⟨#[a]⟩:Str)==⟨#[b]⟩)=decide (a=b):=by
 rw[S1,S1,Ks]
 by_cases h:a=b
 ·subst h;simp
 ·rw[decide_eq_false h];exact beq_false_of_ne (by simpa using h)
theorem Ht(c:Nat):Txt.contains "\n\t\r " ⟨#[c]⟩=decide (c=10∨c=9∨c=13∨c=32):=by
 have:("\n\t\r ":Str)=S [10,9,13,32]:=rfl
 rw[this,Pf]
 simp
theorem P5{p p2:Pos}{v:AV}(hd:d≠10)(hs:s.length<90000)(hp:(([]:List Keyword).isEmpty&&ap.endLine==p.line&&decide (([]:List PySem.Expr).length<=5))=true):
 AQ (E W (n+9)) tp W CM.sc (.Assign [.Name "ch" qn] (.Call (.Attribute (.Name "self" q1) "_read_char" ap) [] [] p) p2) (gR l q (d::s) (S t) true [("ch",v)])=some (.next,gR l q s (S t) true (ch d)):=by
 refine Ak (S9 (W:=W) (n:=n) (l:=l) (q:=q) (c:=d) hs) λρ' h1 h2=>?_
 rw[if_neg hd] at h2
 exact BK (H0 rfl rfl Rc (DD rfl h1 h2 rfl rfl rfl) hp) rfl rfl
theorem Je{p:Pos}(ht:t.length<90000):AQ (E W (n+9)) tp W CM.sc (.AugAssign (.Name "token" qn) .Add (.Name "ch" q1) p) (gR l q s (S t) true (ch c))=some (.next,gR l q s (S (t++[c])) true (ch c)):=
 Mc rfl rfl (by rw[QD (by rw[CA,S1,CA];show _<=100000;simp;exact Ah 0x14c1869f530116a15f905301 Aa ht),S1,KC]) rfl
theorem lM:(E W (n+12)).ss CM.sc (AB gQ) (gR l q s (S t) true (ch 34))=some (.ret (.str (S t)),gR l q s (S t) true (ch 34)):=rfl
theorem aX(hd:d≠10)(hs:s.length<90000)(ht:t.length<90000):(E W (n+12)).ss CM.sc (AB gQ) (gR l q (d::s) (S t) true (ch 92))=some (.next,gR l q s (S (t++[d])) true (ch d)):=
 Aq (AZ rfl (A3 (B3 rfl (A3 (P5 hd hs rfl))))) (A3 (Je ht))
theorem fF(h1:c≠34)(h2:c≠92)(ht:t.length<90000):(E W (n+12)).ss CM.sc (AB gQ) (gR l q s (S t) true (ch c))=some (.next,gR l q s (S (t++[c])) true (ch c)):=
 Aq (AZ (Br (decide_eq_false h1▸Lp c 34) rfl) (A3 (AZ (Br (decide_eq_false h2▸Lp c 92) rfl) rfl))) (A3 (Je ht))
theorem dO(h:c=10∨c=9∨c=13∨c=32):(E W (n+12)).ss CM.sc (AB gP) (gR l q s (S t) true (ch c))=some (.ret (.str (S t)),gR l q s (S t) true (ch c)):=
 IN (B3 (Br (decide_eq_true h▸Ht c) rfl) rfl)
theorem jN(hd:d≠10)(hs:s.length<90000)(ht:t.length<90000):(E W (n+12)).ss CM.sc (AB gP) (gR l q (d::s) (S t) true (ch 92))=some (.next,gR l q s (S (t++[d])) true (ch d)):=
 Aq (AZ (Br ((Ht 92).trans (by decide:decide ((92:Nat)=10∨92=9∨92=13∨92=32)=false)) rfl) (A3 (B3 rfl (A3 (P5 hd hs rfl))))) (A3 (Je ht))
theorem nP(h1:¬(c=10∨c=9∨c=13∨c=32))(h2:c≠92)(ht:t.length<90000):(E W (n+12)).ss CM.sc (AB gP) (gR l q s (S t) true (ch c))=some (.next,gR l q s (S (t++[c])) true (ch c)):=
 Aq (AZ (Br (decide_eq_false h1▸Ht c) rfl) (A3 (AZ (Br (decide_eq_false h2▸Lp c 92) rfl) rfl))) (A3 (Je ht))
theorem Lx{f:Str}(h0:ρ.get f=some (.cit true))(h1:rd ρ=some (.str ⟨#[c]⟩,ρ1))(h2:body (.str ⟨#[c]⟩) ρ1=some (.next,AD))(k:DA f rd body m AD=CJ):DA f rd body (m+1) ρ=CJ:=by
 refine Ab h0 (Ab (x:=true) rfl ?_)
 refine(if_pos rfl).trans (Ab h1 (Ab (x:=⟨#[c]⟩) rfl ?_))
 refine(if_neg (λe=>?_)).trans (Ab h2 k)
 exact Nat.one_ne_zero (congrArg Str.length e)
theorem SM{f:Str}(h0:ρ.get f=some (.cit true))(h1:rd ρ=some (.str ⟨#[c]⟩,ρ1))(h2:body (.str ⟨#[c]⟩) ρ1=some (.cont,AD))(k:DA f rd body m AD=CJ):DA f rd body (m+1) ρ=CJ:=by
 refine Ab h0 (Ab (x:=true) rfl ?_)
 refine(if_pos rfl).trans (Ab h1 (Ab (x:=⟨#[c]⟩) rfl ?_))
 refine(if_neg (λe=>?_)).trans (Ab h2 k)
 exact Nat.one_ne_zero (congrArg Str.length e)
theorem LY{f:Str}{u:AV}(h0:ρ.get f=some (.cit true))(h1:rd ρ=some (.str ⟨#[c]⟩,ρ1))(h2:body (.str ⟨#[c]⟩) ρ1=some (.ret u,AD)):DA f rd body (m+1) ρ=some (.ret u,AD):=by
 refine Ab h0 (Ab (x:=true) rfl ?_)
 refine(if_pos rfl).trans (Ab h1 (Ab (x:=⟨#[c]⟩) rfl ?_))
 refine(if_neg (λe=>?_)).trans (Ab h2 rfl)
 exact Nat.one_ne_zero (congrArg Str.length e)
theorem TF{f:Str}(h0:ρ.get f=some (.cit true))(h1:rd ρ=some (.str ⟨#[]⟩,ρ1)):DA f rd body (m+1) ρ=some (.next,ρ1.set f (.cit false)):=by
 refine Ab h0 (Ab (x:=true) rfl ?_)
 exact(if_pos rfl).trans (Ab h1 (Ab (x:=⟨#[]⟩) rfl (if_pos rfl)))
theorem mH{f:Str}(h0:ρ.get f=some (.cit false)):DA f rd body (m+1) ρ=some (.next,ρ):=by
 refine Ab h0 (Ab (x:=false) rfl ?_)
 exact if_neg Bool.false_ne_true
noncomputable def QU(u:List Nat):Prop:=(∃c,u=[c]/\c≠34/\c≠92/\c≠10)∨∃c,u=[92,c]/\c≠10
noncomputable def PU(u:List Nat):Prop:=(∃c,u=[c]/\¬(c=10∨c=9∨c=13∨c=32)/\c≠92)∨∃c,u=[92,c]/\c≠10
noncomputable def C7(u:List Nat):Nat:=u.getLast?.getD 0
noncomputable abbrev Pp(W n:Nat)(b:List Stmt):=Kp (E W (n+12)) CM.sc "ch" b
noncomputable abbrev Rg(W n:Nat):=Ix (E W (n+12)) tp CM.sc
theorem kX:∀{us:List (List Nat)} {s t:List Nat} {m:Nat} {v:AV},(∀u∈us,QU u)->us.flatten.length+s.length<80000->t.length+us.length<80000->us.length<m->
 DA "fiter" (Rg W n) (Pp W n (AB gQ)) m (gR l q (us.flatten++34::s) (S t) true [("ch",v)])=some (.ret (.str (S (t++us.map C7))),gR l q s (S (t++us.map C7)) true (ch 34)):=by
 intro Al
 induction Al with
 |nil=>
  intro s t zm
  obtain _|m:=zm
  ·intros;first|exact absurd ‹_<0› (Nat.not_lt_zero _)|contradiction
  intro v _ h1 _ _
  rw[List.map_nil,List.append_nil]
  exact LY rfl (F5 (n:=n+4) (by simp at h1;exact Ah 0x16c15f90530116a138805301 Aa h1)) (Ab rfl lM)
 |cons u us zih=>
  intro s t zm
  obtain _|m:=zm
  ·intros;first|exact absurd ‹_<0› (Nat.not_lt_zero _)|contradiction
  intro v h h1 h2 h3
  have hu:=h u List.mem_cons_self
  have hr:∀w∈us,QU w:= λw hw=>h w (List.mem_cons_of_mem _ hw)
  simp only[List.flatten_cons,List.length_append,List.length_cons] at h1 h2 h3
  have hl:(us.flatten++34::s).length<80001:=by simp only[List.length_append,List.length_cons];exact Ap 0x16c13881534412211116a138805342141101 Aa h1
  obtain⟨c,rfl,c1,c2,c3⟩|⟨c,rfl,c3⟩:=hu
  ·have k:=zih (s:=s) (t:=t++[c]) (m:=m) (v:=.str ⟨#[c]⟩) hr (by exact Ap 0x16c13880534211116a138805342141101 Aa h1) (by simp;exact Ac 0x16c13880534114120116a138805344121101 Aa h2) (by exact Ac 0x16c110116a4121141201 Aa h3)
   rw[show t++List.map C7 ([c]::us)=t++[c]++us.map C7 by simp[C7]]
   refine Lx rfl (F5 (n:=n+4) (c:=c) (s:=us.flatten++34::s) (by exact Ah 0x16c15f90530116a138815301 Aa hl)) (Ab rfl ?_) k
   rw[if_neg c3]
   exact fF c1 c2 (by exact Ac 0x16c15f90530116a138805344121101 Aa h2)
  ·have k:=zih (s:=s) (t:=t++[c]) (m:=m) (v:=.str ⟨#[c]⟩) hr (by exact Ap 0x16c13880534211116a138805342141101 Aa h1) (by simp;exact Ac 0x16c13880534114120116a138805344121101 Aa h2) (by exact Ac 0x16c110116a4121141201 Aa h3)
   rw[show t++List.map C7 ([92,c]::us)=t++[c]++us.map C7 by simp[C7]]
   refine Lx rfl (F5 (n:=n+4) (c:=92) (s:=c::(us.flatten++34::s)) (by simp only[List.length_cons];exact Ah 0x16c15f90534120116a138815301 Aa hl)) (Ab rfl ?_) k
   exact aX c3 (by exact Ah 0x16c15f90530116a138815301 Aa hl) (by exact Ac 0x16c15f90530116a138805344121101 Aa h2)
theorem VM:∀{us:List (List Nat)} {s t:List Nat} {m:Nat} {v:AV},(c=9∨c=13∨c=32)->(∀u∈us,PU u)->us.flatten.length+s.length<80000->t.length+us.length<80000->us.length<m->
 DA "fiter" (Rg W n) (Pp W n (AB gP)) m (gR l q (us.flatten++c::s) (S t) true [("ch",v)])=some (.ret (.str (S (t++us.map C7))),gR l q s (S (t++us.map C7)) true (ch c)):=by
 intro Al
 induction Al with
 |nil=>
  intro s t zm
  obtain _|m:=zm
  ·intros;first|exact absurd ‹_<0› (Nat.not_lt_zero _)|contradiction
  intro v hc _ h1 _ _
  rw[List.map_nil,List.append_nil]
  refine LY rfl (F5 (n:=n+4) (c:=c) (s:=s) (by simp at h1;exact Ah 0x16c15f90530116a138805301 Aa h1)) (Ab rfl ?_)
  rw[if_neg (by omega)]
  exact dO (.inr hc)
 |cons u us zih=>
  intro s t zm
  obtain _|m:=zm
  ·intros;first|exact absurd ‹_<0› (Nat.not_lt_zero _)|contradiction
  intro v hc h h1 h2 h3
  have hu:=h u List.mem_cons_self
  have hr:∀w∈us,PU w:= λw hw=>h w (List.mem_cons_of_mem _ hw)
  simp only[List.flatten_cons,List.length_append,List.length_cons] at h1 h2 h3
  have hl:(us.flatten++c::s).length<80001:=by simp only[List.length_append,List.length_cons];exact Ap 0x16c13881534412211116a138805342141101 Aa h1
  obtain⟨d,rfl,c1,c2⟩|⟨d,rfl,c3⟩:=hu
  ·have k:=zih (s:=s) (t:=t++[d]) (m:=m) (v:=.str ⟨#[d]⟩) hc hr (by exact Ap 0x16c13880534211116a138805342141101 Aa h1) (by simp;exact Ac 0x16c13880534114120116a138805344121101 Aa h2) (by exact Ac 0x16c110116a4121141201 Aa h3)
   rw[show t++List.map C7 ([d]::us)=t++[d]++us.map C7 by simp[C7]]
   refine Lx rfl (F5 (n:=n+4) (c:=d) (s:=us.flatten++c::s) (by exact Ah 0x16c15f90530116a138815301 Aa hl)) (Ab rfl ?_) k
   rw[if_neg (by exact λq=>c1 (.inl q))]
   exact nP c1 c2 (by exact Ac 0x16c15f90530116a138805344121101 Aa h2)
  ·have k:=zih (s:=s) (t:=t++[d]) (m:=m) (v:=.str ⟨#[d]⟩) hc hr (by exact Ap 0x16c13880534211116a138805342141101 Aa h1) (by simp;exact Ac 0x16c13880534114120116a138805344121101 Aa h2) (by exact Ac 0x16c110116a4121141201 Aa h3)
   rw[show t++List.map C7 ([92,d]::us)=t++[d]++us.map C7 by simp[C7]]
   refine Lx rfl (F5 (n:=n+4) (c:=92) (s:=d::(us.flatten++c::s)) (by simp only[List.length_cons];exact Ah 0x16c15f90534120116a138815301 Aa hl)) (Ab rfl ?_) k
   exact jN c3 (by exact Ah 0x16c15f90530116a138815301 Aa hl) (by exact Ac 0x16c15f90530116a138805344121101 Aa h2)
end
section
variable {l:Int} {q:List AV} {s:List Nat} {t:List Nat} {c d:Nat}
noncomputable def dD(x:AV):Prop:=x.ol?=none/\x.free=true
noncomputable abbrev PR(W n:Nat):=Kp (E W (n+14)) CM.sc "ch" (AB Vj)
noncomputable abbrev Py(W n:Nat):=Ix (E W (n+14)) tp CM.sc
noncomputable def Ends(W n:Nat)(l:Int)(s:List Nat)(m:Nat)(w:List Nat)(l':Int)(s':List Nat):Prop:=
 ∀tl,(tl=[]∨∃v,tl=([("ch",v)]:List (Str×AV)))->∃ρ',DA "fiter" (Py W n) (PR W n) m (gR l [] s (S []) true tl)=some (.ret (.str (S w)),ρ')/\ρ'.get "self"=some (lx l' [] s')
theorem K3(h:tl=[]∨∃v,tl=([("ch",v)]:List (Str×AV))):Cy CM.sc "ch" (.str ⟨#[c]⟩) (gR l q s (S t) true tl)=some (gR l q s (S t) true (ch c)):=by
 obtain rfl|⟨_,rfl⟩:=h<;>rfl
theorem gG{w:List Nat}(hs:s.length<80000)(h:Ends W n (l+1) s m w l' s'):Ends W n l (10::s) (m+1) w l' s':=by
 intro tl z
 refine Ak (h (ch 10) (.inr ⟨_,rfl⟩)) λρ' h1 h2=>?_
 have e:=F5 (W:=W) (n:=n+6) (l:=l) (q:=[]) (c:=10) (t:=S []) (live:=true) (tl:=tl) (s:=s) (by exact Ah 0x16c15f90530116a138805301 Aa hs)
 rw[if_pos rfl] at e
 exact⟨ρ',SM rfl e (Ab (K3 z) (Wh (B3 (Br ((Ht 10).trans rfl) rfl) rfl))) h1,h2⟩
theorem Y6(h:∀u∈us,QU u)(hs:us.flatten.length+s.length<70000)(hu:us.length<70000)(hW:us.length<W):Ends W n l (34::(us.flatten++34::s)) (m+1) (us.map C7) l s:=by
 intro tl z
 have k:=kX (W:=W) (n:=n) (l:=l) (q:=[]) (us:=us) (s:=s) (t:=[]) (m:=W) (v:=.str ⟨#[34]⟩) h (by exact Ac 0x16c13880534110116a111705341101 Aa hs) (by simp;exact Ah 0x16c13880530116a111705301 Aa hu) hW
 rw[List.nil_append] at k
 exact⟨_,LY rfl (F5 (n:=n+6) (c:=34) (s:=us.flatten++34::s) (by simp only[List.length_append,List.length_cons];exact Ac 0x16c15f90534412110116a111705341101 Aa hs)) (Ab (K3 z) (Aq (AZ (Br ((Ht 34).trans (by decide:decide ((34:Nat)=10∨34=9∨34=13∨34=32)=false)) rfl) rfl) (A3 (B3 rfl (IN (Jm rfl k)))))),rfl⟩
noncomputable def FU(u:List Nat):Prop:=PU u/\u≠[34]
theorem mI{u:List Nat}(hc:c=9∨c=13∨c=32)(h0:FU u)(h:∀u∈us,PU u)(hs:us.flatten.length+s.length<70000)(hu:us.length<70000)(hW:us.length<W):Ends W n l (u++us.flatten++c::s) (m+1) (C7 u::us.map C7) l s:=by
 intro tl z
 have hl:(us.flatten++c::s).length<70001:=by simp only[List.length_append,List.length_cons];exact Ac 0x16c11171534412110116a111705341101 Aa hs
 obtain⟨⟨d,rfl,d1,d2⟩|⟨d,rfl,d3⟩,h1⟩:=h0
 ·have k:=VM (W:=W) (n:=n) (l:=l) (q:=[]) (c:=c) (us:=us) (s:=s) (t:=[d]) (m:=W) (v:=.str ⟨#[d]⟩) hc h (by exact Ac 0x16c13880534110116a111705341101 Aa hs) (by simp;exact Ah 0x16c13880534011216a111705301 Aa hu) hW
  have d3:d≠34:= λe=>h1 (by rw[e])
  refine⟨gR l [] s (S ([d]++us.map C7)) true (ch c),LY rfl (F5 (n:=n+6) (c:=d) (s:=us.flatten++c::s) (by exact Ah 0x16c15f90530116a111715301 Aa hl)) (Ab (K3 z) ?_),rfl⟩
  rw[if_neg (by exact λq=>d1 (.inl q))]
  exact Aq (AZ (Br (decide_eq_false d1▸Ht d) rfl) rfl) (A3 (AZ (Br (decide_eq_false d3▸Lp d 34) rfl) (Aq (AZ (Br (decide_eq_false d2▸Lp d 92) rfl) rfl) (Aq (Je (by decide)) (A3 (Jm rfl k))))))
 ·have k:=VM (W:=W) (n:=n) (l:=l) (q:=[]) (c:=c) (us:=us) (s:=s) (t:=[d]) (m:=W) (v:=.str ⟨#[d]⟩) hc h (by exact Ac 0x16c13880534110116a111705341101 Aa hs) (by simp;exact Ah 0x16c13880534011216a111705301 Aa hu) hW
  refine⟨gR l [] s (S ([d]++us.map C7)) true (ch c),LY rfl (F5 (n:=n+6) (c:=92) (s:=d::(us.flatten++c::s)) (by simp only[List.length_cons];exact Ah 0x16c15f90534120116a111715301 Aa hl)) (Ab (K3 z) ?_),rfl⟩
  exact Aq (AZ (Br ((Ht 92).trans (by decide:decide ((92:Nat)=10∨92=9∨92=13∨92=32)=false)) rfl) rfl) (A3 (AZ rfl (Aq (B3 rfl (A3 (P5 d3 (by exact Ah 0x16c15f90530116a111715301 Aa hl) rfl))) (Aq (Je (by decide)) (A3 (Jm rfl k))))))
theorem Ws{w:List Nat}(h:Ends W n l s W w l' s'):∃ρ',BZ (E W (n+15)) CM [("self",lx l [] s)]=some (.str (S w),ρ')/\ρ'.get "self"=some (lx l' [] s'):=by
 refine Ak (h [] (.inl rfl)) λρ' h1 h2=>?_
 exact⟨ρ',Cz (Aq (AZ rfl rfl) (Aq rfl (Aq rfl (IN (Jm rfl h1))))) rfl,h2⟩
theorem ZY{V:Nat}:∃ρ',BZ (E (V+5) (n+15)) CM [("self",lx l [] [10])]=some (.str (S []),ρ')/\ρ'.get "self"=some (lx (l+1) [] []):=by
 have e:=F5 (W:=V+5) (n:=n+6) (l:=l) (q:=[]) (c:=10) (t:=S []) (live:=true) (tl:=[]) (s:=[]) (by decide)
 rw[if_pos rfl] at e
 have k:DA "fiter" (Py (V+5) n) (PR (V+5) n) (V+5) (gR l [] [10] (S []) true [])=some (.next,gR (l+1) [] [] (S []) false (ch 10)):=
  SM rfl e (Ab (K3 (.inl rfl)) (Wh (B3 (Br ((Ht 10).trans rfl) rfl) rfl))) (TF rfl (Tw (n:=n+6)))
 exact⟨gR (l+1) [] [] (S []) false (ch 10),Cz (Aq (AZ rfl rfl) (Aq rfl (Aq rfl (Aq (Jm rfl k) (A3 (CB rfl)))))) rfl,rfl⟩
theorem QR{V:Nat}:∃ρ',BZ (E (V+5) (n+15)) CM [("self",lx l [] [])]=some (.str (S []),ρ')/\ρ'.get "self"=some (lx l [] []):=by
 refine⟨_,rfl,?_⟩
 rfl
theorem Xd{V:Nat}:∃ρ',BZ (E (V+5) (n+15)) CM [("self",lx l [] [122])]=some (.str (S [122]),ρ')/\ρ'.get "self"=some (lx l [] []):=by
 have e:=F5 (W:=V+5) (n:=n+6) (l:=l) (q:=[]) (c:=122) (t:=S []) (live:=true) (tl:=[]) (s:=[]) (by decide)
 rw[if_neg (by decide)] at e
 have k1:DA "fiter" (Rg (V+5) n) (Pp (V+5) n (AB gP)) (V+5) (gR l [] [] (S [122]) true (ch 122))=some (.next,gR l [] [] (S [122]) false (ch 122)):=TF rfl (Tw (n:=n+4))
 have k:DA "fiter" (Py (V+5) n) (PR (V+5) n) (V+5) (gR l [] [122] (S []) true [])=some (.next,gR l [] [] (S [122]) false (ch 122)):=
  Lx rfl e (Ab (K3 (.inl rfl)) (Aq (AZ (Br ((Ht 122).trans (by decide:decide ((122:Nat)=10∨122=9∨122=13∨122=32)=false)) rfl) rfl) (A3 (AZ rfl (Aq (AZ rfl rfl) (Aq (Je (t:=[]) (by decide)) (A3 (Jm rfl k1)))))))) (mH rfl)
 exact⟨gR l [] [] (S [122]) false (ch 122),Cz (Aq (AZ rfl rfl) (Aq rfl (Aq rfl (Aq (Jm rfl k) (A3 (CB rfl)))))) rfl,rfl⟩
theorem lY{v:AV}(h:(v::q).length<Bg):∃ρ',BZ (E W (n+15)) CM [("self",lx l (v::q) s)]=some (v,ρ')/\ρ'.get "self"=some (lx l q s):=by
 refine⟨⟨[("self",lx l q s)],λ_=>false⟩,Cz (IN (B3 (iR rfl (Nat.le_of_lt h)) (A3 (CB (TK rfl rfl rfl (Vl h) rfl rfl))))) rfl,rfl⟩
theorem SU{v:AV}(h:q.length<Bg)(hv:dD v):∃ρ',BZ (E W (n+8)) U1 [("self",lx l q s),("token",v)]=some (.none,ρ')/\ρ'.get "self"=some (lx l (q++[v]) s):=by
 refine⟨⟨[("token",v),("self",lx l (q++[v]) s)],λ_=>false⟩,Lz (A3 (MY (TK rfl (Bp (DN rfl hv.1 hv.2) rfl) rfl (FF h) rfl rfl) rfl)) rfl,rfl⟩
end
noncomputable def GF:BG:=defAt tp 8
theorem IS:B4 tp "_law_words"=some GF:=rfl
noncomputable def Tok(W:Nat)(l:Int)(q:List AV)(s:List Nat)(v:Str)(l':Int)(q':List AV)(s':List Nat):Prop:=
 ∀n,∃ρ',BZ (E W (n+15)) CM [("self",lx l q s)]=some (.str v,ρ')/\ρ'.get "self"=some (lx l' q' s')
inductive Fh (W:Nat):Int->List AV->List Nat->List (Str×Int)->Int->List AV->List Nat->Prop
 |done {l:Int} {q:List AV} {s:List Nat} {l':Int} {q':List AV} {s':List Nat}:Tok W l q s ⟨#[]⟩ l' q' s'->Fh W l q s [] l' q' s'
 |more {l l1 l':Int} {q q1 q':List AV} {s s1 s':List Nat} {w:Str} {ws:List (Str×Int)}:Tok W l q s w l1 q1 s1->w≠⟨#[]⟩->Fh W l1 q1 s1 ws l' q' s'->Fh W l q s ((w,l1)::ws) l' q' s'
noncomputable def BE(p:Str×Int):AV:=.tup [.str p.1,.int p.2]
noncomputable def Nn:Stmt:=at' GF.body 2
noncomputable def wR(l:Int)(q:List AV)(s:List Nat)(ws:List AV)(w:Str):R:=⟨[("lexer",lx l q s),("words",.ol ws),("word",.str w)],λ_=>false⟩
theorem V9{l:Int}{q:List AV}{s:List Nat}{ws:List AV}{w v:Str}(h:Tok W l q s v l' q' s'):AQ (E W (n+16)) tp W GF.sc (at' (AB Nn) 1) (wR l q s ws w)=some (.next,wR l' q' s' ws v):=by
 refine Ak (h n) λρ' h1 h2=>?_
 exact BK (H0 rfl rfl Kl (DD rfl h1 h2 rfl rfl rfl) rfl) rfl rfl
theorem WD{body:R->Option (Fl×R)}(h1:test ρ=some (true,ρ1))(h2:body ρ1=some (.next,AD))(k:GQ test body m AD=CJ):GQ test body (m+1) ρ=CJ:=Ab h1 ((if_pos rfl).trans (Ab h2 k))
theorem VH{body:R->Option (Fl×R)}(h1:test ρ=some (false,ρ1)):GQ test body (m+1) ρ=some (.next,ρ1):=Ab h1 (if_neg Bool.false_ne_true)
noncomputable abbrev b9(W n:Nat):=GQ ((E W (n+17)).t GF.sc (Kh Nn)) ((E W (n+17)).ss GF.sc (AB Nn))
theorem Uz{l:Int}{q:List AV}{s:List Nat}{ws:List AV}{w:Str}(h:w≠⟨#[]⟩):(E W (n+17)).t GF.sc (Kh Nn) (wR l q s ws w)=some (true,wR l q s ws w):=
 Br (c:= !(w==(⟨#[]⟩:Str))) (by rw[beq_false_of_ne h];rfl) rfl
theorem aB{l:Int}{q:List AV}{s:List Nat}{ws:List (Str×Int)}(h:Fh W l q s ws l' q' s'):∀{w:Str} {acc:List AV} {m:Nat},w≠⟨#[]⟩->acc.length+ws.length<1000->ws.length+1<m->
 b9 W n m (wR l q s acc w)=some (.next,wR l' q' s' (acc++BE (w,l)::ws.map BE) ⟨#[]⟩):=by
 induction h with
 |done t=>
  intro w acc m hw h1 h2
  obtain⟨k,rfl⟩:∃k,m=k+2:=⟨m - 2,by exact Nat.le_antisymm (Ac 0x14c422110114a4221101 Aa Bl) (Ac 0x14c114220114b1142201 Aa (Nat.sub_add_cancel (Ac 0x14c112216a1141201 Aa h2)))⟩
  exact WD (Uz hw) (Aq (DM (Bp rfl rfl) rfl rfl (FF (by show _<100000;exact Ac 0x16c186a0530116a3e83341101 Aa h1)) rfl rfl) (A3 (V9 t))) (VH rfl)
 |@more l l1 l' q q1 q' s s1 s' w1 ws t Si _ ih=>
  intro w acc m hw h1 h2
  obtain⟨k,rfl⟩:∃k,m=k+1:=⟨m - 1,by exact Nat.le_antisymm (Ac 0x14c412110114a4121101 Aa Bl) (Ac 0x14c114120114b1141201 Aa (Nat.sub_add_cancel (Ac 0x14c111216a1141201 Aa h2)))⟩
  simp only[List.length_cons] at h1 h2
  have:=ih (w:=w1) (acc:=acc++[BE (w,l)]) (m:=k) Si (by simp;exact Ac 0x16c3e8334114120116a3e83344121101 Aa h1) (by exact Ac 0x16c114120116a4121141241201 Aa h2)
  rw[List.append_assoc] at this
  exact WD (Uz hw) (Aq (DM (Bp rfl rfl) rfl rfl (FF (by show _<100000;exact Ac 0x16c186a0530116a3e83344121101 Aa h1)) rfl rfl) (A3 (V9 t))) this
theorem QQ{l:Int}{q:List AV}{s:List Nat}{ws:List (Str×Int)}(h:Fh W l q s ws l' q' s')(h1:ws.length<900)(hW:ws.length<W):
 ∃ρ',BZ (E W (n+18)) GF [("lexer",lx l q s)]=some (.list (ws.map BE),ρ')/\ρ'.get "lexer"=some (lx l' q' s'):=by
 have first:∀{v:Str} {l1:Int} {q1:List AV} {s1:List Nat},Tok W l q s v l1 q1 s1->AQ (E W (n+17)) tp W GF.sc (at' GF.body 1) ⟨[("lexer",lx l q s),("words",.ol [])],λ_=>false⟩=some (.next,wR l1 q1 s1 [] v):=by
  intro v l1 q1 s1 h
  refine Ak (h (n+1)) λρ' h1 h2=>?_
  exact BK (H0 rfl rfl Kl (DD rfl h1 h2 rfl rfl rfl) rfl) rfl rfl
 cases h with
 |done t=>
  obtain⟨k,rfl⟩:∃k,W=k+1:=⟨W - 1,by exact Nat.le_antisymm (Ac 0x14c412110114a4121101 Aa Bl) (Ac 0x14c114120114b1141201 Aa (Nat.sub_add_cancel (Ac 0x14c111216a1101 Aa hW)))⟩
  refine⟨_,Cz (Aq rfl (Aq (first t) (Aq (Ki (VH rfl)) (A3 (CB rfl))))) rfl,?_⟩
  rfl
 |more t hw k=>
  have:=aB (n:=n) k (acc:=[]) (m:=W) hw (by simp at h1 ⊢;exact Ah 0x16c3e8330116a3843341201 Aa h1) (by simp at hW ⊢;exact Ac 0x16c114120116a1141201 Aa hW)
  refine⟨_,Cz (Aq rfl (Aq (first t) (Aq (Ki this) (A3 (CB rfl))))) rfl,?_⟩
  rfl
noncomputable def Cb:Nat->AV->Bool
 |0,_=>false
 |n+1,v=>match v with
  |.none=>true
  |.bool _=>true
  |.int _=>true
  |.str s=>PyData.strOk s
  |.tup xs=>xs.all (Cb n)
  |.list xs=>xs.all (Cb n)
  |_=>false
theorem VU(h:∀v,Cb n v=true->∃d,Gk n v=some d/\d.canLay0=true/\d.depth<=n):∀xs:List AV,xs.all (Cb n)=true->∃ds,GS (Gk n) xs=some ds/\PyData.canLayAll0 ds=true/\PyData.depthAll ds<=n:=by
 intro Al
 induction Al with
 |nil=>
  intro _
  exact⟨[],rfl,rfl,Nat.zero_le _⟩
 |cons v r zih=>
  intro hx
  obtain⟨h1,h2⟩:=Bool.and_eq_true_iff.mp hx
  refine Cf (h v h1) λd e1 e2 e3=>?_
  refine Cf (zih h2) λds f1 f2 f3=>?_
  refine⟨d::ds,Ab e1 (Ab f1 rfl),?_,?_⟩
  ·show(d.canLay0&&PyData.canLayAll0 ds)=true
   rw[e2,f2];rfl
  ·show max d.depth (PyData.depthAll ds)<=n
   exact W5 (λA6 Af=>Ap 0x14c210114a211114b1101 Aa f3 Af) (λA6 Af=>Ap 0x14c210114a211114b1101 Aa e3 Af)
theorem iL(n:Nat):∀(v:AV),Cb n v=true->∃d,Gk n v=some d/\d.canLay0=true/\d.depth<=n:=by
 induction n with
 |zero=>exact λ_ h=>Ck h
 |succ n ih=>
  intro v h
  cases v with
  |none=>exact⟨.none,rfl,rfl,Nat.zero_le _⟩
  |bool b=>exact⟨.bool b,rfl,rfl,Nat.zero_le _⟩
  |int i=>exact⟨.int i,rfl,rfl,Nat.zero_le _⟩
  |str s=>exact⟨.str s,rfl,h,Nat.zero_le _⟩
  |tup xs=>
   refine Cf (VU ih xs h) λds f1 f2 f3=>?_
   exact⟨.tuple ds,by show(GS (Gk n) xs).map _=_;rw[f1];rfl,f2,by simp[PyData.depth];exact Ac 0x14c110114a1101 Aa f3⟩
  |list xs=>
   refine Cf (VU ih xs h) λds f1 f2 f3=>?_
   exact⟨.list ds,by show(GS (Gk n) xs).map _=_;rw[f1];rfl,f2,by simp[PyData.depth];exact Ac 0x14c110114a1101 Aa f3⟩
  |_=>exact Ck h
theorem aP{v:AV}(h:Cb 5 v=true):∃d,LK v=some d/\d.canLay0=true:=by
 refine Cf (iL 5 v h) λd h1 h2 h3=>?_
 refine⟨d,Ab h1 (Ab (AF ?_) rfl),h2⟩
 show(d.canLay0&&decide (d.depth<=64))=true
 rw[h2,decide_eq_true (by exact Ah 0x14c40230114a5201 Aa h3)];rfl
theorem eq_self{v:AV}(h:Cb 5 v=true)(h1:v.int?=none)(h2:v.str?=none):IL v v=some true:=by
 refine Ak (aP h) λd e c=>?_
 unfold IL
 rw[h1,h2]
 exact Ab e (Ab e (by rw[SeqAt.eqv_refl d c]))
theorem dH:∀(L:List Int),GS (Gk 4) (L.map .int)=some (L.map PyData.int):=by
 intro Al
 induction Al with
 |nil=>
  exact rfl
 |cons _ r ih=>
  exact Ab rfl (Ab (ih) rfl)
theorem aL:∀(L:List Int),PyData.canLayAll0 (L.map PyData.int)=true:=by
 intro Al
 induction Al with
 |nil=>
  exact rfl
 |cons _ r ih=>
  show(true&&PyData.canLayAll0 _)=true;rw[ih];rfl
theorem Ml(k:Int)(L:List Int):F3 (.int k) (.list (L.map .int))=some (decide (k∈L)):=by
 refine Ab (x:=.int k) rfl (Ab (dH L) (Ab (AF (aL L)) ?_))
 congr 1
 induction L with
 |nil=>rfl
 |cons a r ih=>
  rw[List.map_cons,List.any_cons,ih]
  show((a==k)||_)=_
  by_cases h:a=k
  ·subst h;simp
  ·rw[beq_false_of_ne h];simp[Ne.symm h]
noncomputable def DB(s:Str):Prop:=PyData.strOk s=true/\s≠⟨#[]⟩/\s≠"z"
theorem Wk{s:Str}(h:DB s):F3 (.str s) (.list [.str "",.str "z"])=some false:=by
 refine Ab (x:=.str s) (Ab (x:=.str s) rfl (Ab (AF ?_) rfl)) (Ab rfl (Ab (AF (by decide+kernel)) ?_))
 ·show(PyData.strOk s&&decide ((PyData.str s).depth<=64))=true
  rw[h.1];rfl
 ·show some ((("":Str)==s)||((("z":Str)==s)||false))=some false
  have e1:(("":Str)==s)=false:=beq_false_of_ne λe=>h.2.1 (by rw[<-e];decide+kernel)
  rw[e1,beq_false_of_ne (Ne.symm h.2.2)];rfl
noncomputable def CU:BG:=defAt tp 15
theorem fX:B4 tp "_law_by_lines"=some CU:=rfl
noncomputable def Gc:Stmt:=at' CU.body 3
noncomputable def Px:Stmt:=at' (AB Gc) 0
noncomputable def Dq(p:List Str):List AV:=p.map .str
noncomputable def lF(c:AV)(T O:List Int)(p1:List Str)(z1:List Nat)(p2:List Str)(z2:List Nat)(g:List AV)(tl:List (Str×AV)):R:=
 ⟨("come",c)::("two",.list (T.map .int))::("one",.list (O.map .int))::("first",lx 1 (Dq p1) z1)::("second",lx 1 (Dq p2) z2)::("gone",.ol g)::tl,λ_=>false⟩
noncomputable def FC(h:Nat)(tl:List (Str×AV)):Prop:=tl=([("hour",.int h)]:List (Str×AV))∨∃v,tl=([("hour",.int h),("name",v)]:List (Str×AV))
noncomputable def Z(s:List Nat):Prop:=s=[122]∨s=[]
section
variable {V:Nat} {c:AV} {O:List Int} {p1 p2:List Str} {g:List AV}
theorem Qi(p:List Str):(Dq p).length=p.length:=List.length_map _
theorem jF{v:Str}(hp:p1.length<1000):(E V (n+13)).ss CU.sc (AB Px) (lF c T O p1 z1 p2 z2 g [("hour",.int h),("name",.str v)])=some (.next,lF c T O (p1++[v]) z1 p2 z2 g [("hour",.int h),("name",.str v)]):=by
 refine Ak (SU (W:=V) (n:=n+2) (l:=1) (q:=Dq p1) (s:=z1) (v:=.str v) (by rw[Qi];show _<100000;exact Ah 0x16c186a0530116a3e83301 Aa hp) ⟨rfl,rfl⟩) λρ' h1 h2=>?_
 have e:Dq p1++[AV.str v]=Dq (p1++[v]):=by simp[Dq]
 rw[e] at h2
 exact A3 (AZ (B1 rfl (H0 rfl (Bp rfl rfl) TQ (DD rfl h1 h2 rfl rfl rfl) rfl) rfl rfl rfl) rfl)
theorem gU:∀{cs:List Str} {p1:List Str} {tl:List (Str×AV)},p1.length+cs.length<1000->FC h tl->∃AJ,BP (forTurn (E V (n+13)) CU.sc (BD Px) (AB Px)) (Dq cs) (lF c T O p1 z1 p2 z2 g tl)=some (.next,lF c T O (p1++cs) z1 p2 z2 g AJ)/\FC h AJ:=by
 intro Al
 induction Al with
 |nil=>
  intro p1 tl _ z
  exact⟨tl,by rw[List.append_nil];rfl,z⟩
 |cons v cs zih=>
  intro p1 tl hl z
  refine Ak (zih (p1:=p1++[v]) (tl:=([("hour",.int h),("name",.str v)]:List (Str×AV))) (by simp at hl ⊢;exact Ac 0x16c3e8334114120116a3e83344121101 Aa hl) (.inr ⟨_,rfl⟩)) λAJ e z'=>?_
  rw[List.append_assoc] at e
  refine⟨AJ,BH (turn ?_ (jF (by simp at hl;exact Ac 0x16c3e8330116a3e83344121101 Aa hl))) e,z'⟩
  obtain rfl|⟨_,rfl⟩:=z<;>rfl
noncomputable def Cc(b:Bool)(p:List Str):Option Str×List Str:=match b,p with
 |true,v::r=>(some v,r)
 |_,p=>(none,p)
noncomputable def GB(p:List Str):Option Str->List Str
 |some v=>p++[v]
 |none=>p
noncomputable def Iu(g:List (Str×Nat))(h:Nat):Option Str->List (Str×Nat)
 |some v=>g++[(v,h)]
 |none=>g
noncomputable def Bi(g:List (Str×Nat)):List AV:=g.map λp=>.tup [.str p.1,.int p.2]
theorem Rf{v:Str}{r:List Str}(hp:r.length<1000):Tok V 1 (Dq (v::r)) z v 1 (Dq r) z:= λn=>lY (n:=n) (v:=.str v) (q:=Dq r) (by rw[List.length_cons,Qi];show _<100000;exact Ah 0x16c186a0534120116a3e83301 Aa hp)
theorem Tx(hz:Z z):∃v z',Tok (V+5) 1 [] z v 1 [] z'/\Z z'/\(v=⟨#[]⟩∨v="z"):=by
 obtain rfl|rfl:=hz
 ·exact⟨_,[],λn=>Xd,.inr rfl,.inr rfl⟩
 ·exact⟨_,[],λn=>QR,.inr rfl,.inl rfl⟩
theorem Tf{v:Str}(h:v=⟨#[]⟩∨v="z"):F3 (.str v) (.list [.str "",.str "z"])=some true:=by
 obtain rfl|rfl:=h
 ·with_unfolding_all rfl
 ·with_unfolding_all rfl
noncomputable def V2(k:Nat):List Stmt:=match at' (AB Gc) k with
 |.If _ b _ _=>b
 |_=>[]
theorem To{v:Str}{q1:List Str}(ht:Tok V 1 (Dq p1) z1 v 1 (Dq q1) z2)(z:FC h tl):AQ (E V (n+16)) tp V CU.sc (at' (V2 1) 0) (lF c T O p1 z1 p2 y2 g tl)=some (.next,lF c T O q1 z2 p2 y2 g [("hour",.int h),("name",.str v)]):=by
 refine Ak (ht n) λρ' h1 h2=>?_
 obtain rfl|⟨_,rfl⟩:=z
 ·exact BK (H0 rfl rfl Kl (DD rfl h1 h2 rfl rfl rfl) rfl) rfl rfl
 ·exact BK (H0 rfl rfl Kl (DD rfl h1 h2 rfl rfl rfl) rfl) rfl rfl
theorem TW{v:Str}(ht:Tok V 1 (Dq p2) z1 v 1 (Dq q2) z2)(z:FC h tl):AQ (E V (n+16)) tp V CU.sc (at' (V2 2) 0) (lF c T O p1 y1 p2 z1 g tl)=some (.next,lF c T O p1 y1 q2 z2 g [("hour",.int h),("name",.str v)]):=by
 refine Ak (ht n) λρ' h1 h2=>?_
 obtain rfl|⟨_,rfl⟩:=z
 ·exact BK (H0 rfl rfl Kl (DD rfl h1 h2 rfl rfl rfl) rfl) rfl rfl
 ·exact BK (H0 rfl rfl Kl (DD rfl h1 h2 rfl rfl rfl) rfl) rfl rfl
theorem bQ(hW:V=W+5)(z:FC h tl)(hz:Z z1)(hn:∀v∈p1,DB v)(h1:p1.length<1000)(h2:p2.length<1000):∃z' AJ,Z z'/\FC h AJ/\
 AQ (E V (n+17)) tp V CU.sc (at' (AB Gc) 1) (lF c T O p1 z1 p2 z2 g tl)=some (.next,lF c T O (Cc (decide ((h:Int)∈O)) p1).2 z' (GB p2 (Cc (decide ((h:Int)∈O)) p1).1) z2 g AJ):=by
 subst hW
 have t:∀tl,FC h tl->(E (W+5) (n+17)).t CU.sc (match at' (AB Gc) 1 with|.If t _ _ _=>t|_=>default) (lF c T O p1 z1 p2 z2 g tl)=some (decide ((h:Int)∈O),lF c T O p1 z1 p2 z2 g tl):=by
  intro tl z
  obtain rfl|⟨_,rfl⟩:=z
  ·exact B1 rfl rfl rfl (Ml _ _) rfl
  ·exact B1 rfl rfl rfl (Ml _ _) rfl
 by_cases b:(h:Int)∈O
 ·rw[decide_eq_true b]
  have t:=Br (decide_eq_true b) (t tl z)
  cases p1 with
  |nil=>
   refine GV (Tx (V:=W) hz) λv z' k M1 hv=>?_
   exact⟨z',_,M1,.inr ⟨_,rfl⟩,B3 t (Aq (To (p1:=[]) (q1:=[]) k z) (A3 (AZ (B1 rfl rfl rfl (by show(F3 _ _).map _=_;rw[Tf hv];rfl) rfl) rfl)))⟩
  |cons v r=>
   refine Ak (SU (W:=W+5) (n:=n+6) (l:=1) (q:=Dq p2) (s:=z2) (v:=.str v) (by rw[Qi];show _<100000;exact Ah 0x16c186a0530116a3e83301 Aa h2) ⟨rfl,rfl⟩) λρ' k1 k2=>?_
   have e:Dq p2++[AV.str v]=Dq (p2++[v]):=by simp[Dq]
   rw[e] at k2
   exact⟨z1,_,hz,.inr ⟨_,rfl⟩,B3 t (Aq (To (Rf (by simp at h1;exact Ah 0x16c3e8330116a3e83341201 Aa h1)) z) (A3 (B3 (B1 rfl rfl rfl (by show(F3 _ _).map _=_;rw[Wk (hn v List.mem_cons_self)];rfl) rfl) (A3 (MY (H0 rfl (Bp rfl rfl) TQ (DD rfl k1 k2 rfl rfl rfl) rfl) rfl)))))⟩
 ·rw[decide_eq_false b]
  exact⟨z1,tl,hz,z,AZ (Br (decide_eq_false b) (t tl z)) rfl⟩
theorem eW{gs:List (Str×Nat)}(hW:V=W+5)(z:FC h tl)(hz:Z z2)(hn:∀v∈p2,DB v)(h2:p2.length<1000)(h3:gs.length<1000):∃z' AJ,Z z'/\FC h AJ/\
 AQ (E V (n+17)) tp V CU.sc (at' (AB Gc) 2) (lF c T O p1 z1 p2 z2 (Bi gs) tl)=some (.next,lF c T O p1 z1 (Cc (decide ((h:Int)∈T)) p2).2 z' (Bi (Iu gs h (Cc (decide ((h:Int)∈T)) p2).1)) AJ):=by
 subst hW
 have t:∀tl,FC h tl->(E (W+5) (n+17)).t CU.sc (match at' (AB Gc) 2 with|.If t _ _ _=>t|_=>default) (lF c T O p1 z1 p2 z2 (Bi gs) tl)=some (decide ((h:Int)∈T),lF c T O p1 z1 p2 z2 (Bi gs) tl):=by
  intro tl z
  obtain rfl|⟨_,rfl⟩:=z
  ·exact B1 rfl rfl rfl (Ml _ _) rfl
  ·exact B1 rfl rfl rfl (Ml _ _) rfl
 by_cases b:(h:Int)∈T
 ·rw[decide_eq_true b]
  have t:=Br (decide_eq_true b) (t tl z)
  cases p2 with
  |nil=>
   refine GV (Tx (V:=W) hz) λv z' k M1 hv=>?_
   exact⟨z',_,M1,.inr ⟨_,rfl⟩,B3 t (Aq (TW (p2:=[]) (q2:=[]) k z) (A3 (AZ (B1 rfl rfl rfl (by show(F3 _ _).map _=_;rw[Tf hv];rfl) rfl) rfl)))⟩
  |cons v r=>
   have e:Bi gs++[AV.tup [.str v,.int h]]=Bi (gs++[(v,h)]):=by simp[Bi]
   have hl:(Bi gs).length<Bg:=by show(gs.map _).length<100000;rw[List.length_map];exact Ah 0x16c186a0530116a3e83301 Aa h3
   refine⟨z2,[("hour",.int h),("name",.str v)],hz,.inr ⟨_,rfl⟩,B3 t (Aq (TW (Rf (by simp at h2;exact Ah 0x16c3e8330116a3e83341201 Aa h2)) z) (A3 (B3 (B1 rfl rfl rfl (by show(F3 _ _).map _=_;rw[Wk (hn v List.mem_cons_self)];rfl) rfl) (A3 (DM (Bp rfl rfl) rfl rfl (FF hl) rfl ?_)))))⟩
   rw[e];rfl
 ·rw[decide_eq_false b]
  exact⟨z2,tl,hz,z,AZ (Br (decide_eq_false b) (t tl z)) rfl⟩
end
structure Two where
 p1:List Str
 p2:List Str
 gone:List (Str×Nat)
noncomputable def Two.hour(O T:List Int)(h:Nat)(cs:List Str)(x:Two):Two:=
 let a:=Cc (decide ((h:Int)∈O)) (x.p1++cs)
 let b:=Cc (decide ((h:Int)∈T)) (GB x.p2 a.1)
 ⟨a.2,b.2,Iu x.gone h b.1⟩
noncomputable def WZ(tl:List (Str×AV)):Prop:=tl=[]∨∃h,FC h tl
theorem Vp(b:Bool)(p:List Str):(Cc b p).2.length<=p.length:=by
 cases b<;>cases p<;>simp[Cc]
theorem Rh{P:Str->Prop}{p:List Str}(h:∀v∈p,P v):(∀v∈(Cc b p).2,P v)/\∀v,(Cc b p).1=some v->P v:=by
 cases b with
 |false=>exact⟨h,λ_ e=>nomatch e⟩
 |true=>cases p with
  |nil=>exact⟨h,λ_ e=>nomatch e⟩
  |cons v r=>exact⟨λw hw=>h w (List.mem_cons_of_mem _ hw),λw e=>by(revert e;refine As λc0=>?_;subst c0);exact h _ List.mem_cons_self⟩
theorem TU{P:Str->Prop}{p:List Str}{o:Option Str}(h:∀v∈p,P v)(ho:∀v,o=some v->P v):∀v∈GB p o,P v:=by
 cases o with
 |none=>exact h
 |some w=>exact λv hv=>(List.mem_append.mp hv).elim (h v) λq=>by rw[List.mem_singleton.mp q];exact ho w rfl
theorem Vh(p:List Str)(o:Option Str):(GB p o).length<=p.length+1:=by cases o<;>simp[GB]
theorem Yz(g:List (Str×Nat))(h:Nat)(o:Option Str):(Iu g h o).length<=g.length+1:=by cases o<;>simp[Iu]
theorem Kk{V:Nat}{O:List Int}{x:Two}{cs:List Str}(hW:V=W+5)(hc:cm[h]? =some cs)(hh:h<100)(z:WZ tl)(t8:Z z1)(qK:Z z2)(n1:∀v∈x.p1,DB v)(n2:∀v∈x.p2,DB v)(nc:∀v∈cs,DB v)
 (l1:x.p1.length+cs.length<900) (l2:x.p2.length<900) (l3:x.gone.length<900):
 ∃M0 O4 AJ,Z M0/\Z O4/\WZ AJ/\forTurn (E V (n+18)) CU.sc (BD Gc) (AB Gc) (.int h) (lF (Bw cm) T O x.p1 z1 x.p2 z2 (Bi x.gone) tl)=some (.next,lF (Bw cm) T O (x.hour O T h cs).p1 M0 (x.hour O T h cs).p2 O4 (Bi (x.hour O T h cs).gone) AJ):=by
 obtain⟨BX,e1,t1⟩:∃BX,BS CU.sc (BD Gc) (.int h) (lF (Bw cm) T O x.p1 z1 x.p2 z2 (Bi x.gone) tl)=some (lF (Bw cm) T O x.p1 z1 x.p2 z2 (Bi x.gone) BX)/\FC h BX:=by
  obtain rfl|⟨h',rfl|⟨_,rfl⟩⟩:=z
  ·exact⟨_,rfl,.inl rfl⟩
  ·exact⟨_,rfl,.inl rfl⟩
  ·exact⟨_,rfl,.inr ⟨_,rfl⟩⟩
 refine Ak (gU (V:=V) (n:=n+4) (c:=Bw cm) (T:=T) (O:=O) (p2:=x.p2) (z1:=z1) (z2:=z2) (g:=Bi x.gone) (cs:=cs) (p1:=x.p1) (tl:=BX) (by exact Ac 0x16c3e8334110116a3843341101 Aa l1) t1) λC4 e2 t2=>?_
 have na:∀v∈x.p1++cs,DB v:= λv hv=>(List.mem_append.mp hv).elim (n1 v) (nc v)
 have la:(x.p1++cs).length<1000:=by rw[List.length_append];exact Ac 0x16c3e8334110116a3843341101 Aa l1
 refine GV (bQ (n:=n) (c:=Bw cm) (T:=T) (O:=O) (z2:=z2) (g:=Bi x.gone) hW t2 t8 na la (by exact Ah 0x16c3e8330116a3843301 Aa l2:x.p2.length<1000)) λM0 EQ rL t3 e3=>?_
 have nb:=TU (p:=x.p2) n2 (Rh (b:=decide ((h:Int)∈O)) na).2
 refine GV (eW (n:=n) (c:=Bw cm) (T:=T) (O:=O) (p1:=(Cc (decide ((h:Int)∈O)) (x.p1++cs)).2) (z1:=M0) (gs:=x.gone) hW t3 qK nb (by have:=Vh x.p2 (Cc (decide ((h:Int)∈O)) (x.p1++cs)).1;exact Ac 0x16c3e8331114a412011116a3843301 Aa this l2) (by exact Ah 0x16c3e8330116a3843301 Aa l3)) λO4 Ju rT t4 e4=>?_
 have hv:(cm.map λc=>AV.list (c.map .str))[h]? =some (.list (cs.map .str)):=by rw[List.getElem?_map,hc];rfl
 refine⟨M0,O4,Ju,rL,rT,.inr ⟨h,t4⟩,turn e1 (Aq (ρ1:=lF (Bw cm) T O (x.p1++cs) z1 x.p2 z2 (Bi x.gone) C4) ?_ (Aq e3 (A3 e4)))⟩
 obtain rfl|⟨_,rfl⟩:=t1
 ·exact E0 rfl rfl (Cr (BM rfl rfl rfl (DW hv (by exact Ah 0x16c186a0530116a642301 Aa hh)) rfl rfl) rfl rfl) e2
 ·exact E0 rfl rfl (Cr (BM rfl rfl rfl (DW hv (by exact Ah 0x16c186a0530116a642301 Aa hh)) rfl rfl) rfl rfl) e2
noncomputable def zW(z:List Nat):List (Str×Int):=if z=[] then[] else[("z",1)]
theorem UD{V:Nat}(hW:V=W+5)(hz:Z z):∀{p:List Str},(∀v∈p,DB v)->p.length<900->Fh V 1 (Dq p) z (p.map (λv=>(v,(1:Int)))++zW z) 1 [] []:=by
 intro Al
 induction Al with
 |nil=>
  intro _ _
  subst hW
  obtain rfl|rfl:=hz
  ·exact .more (λn=>Xd) (by decide+kernel) (.done λn=>QR)
  ·exact .done λn=>QR
 |cons v p ih=>
  intro h hl
  refine .more (Rf (by simp at hl;exact Ah 0x16c3e8330116a3843341201 Aa hl)) (h v List.mem_cons_self).2.1 ?_
  exact ih (λw hw=>h w (List.mem_cons_of_mem _ hw)) (by simp at hl;exact Ah 0x16c384330116a3843341201 Aa hl)
noncomputable def PY:PySem.Expr:=match at' CU.body 4 with
 |.Return (some (.Tuple [_,e] _ _)) _=>e
 |_=>default
noncomputable def Km:Comprehension:=match PY with
 |.ListComp _ [g] _ _=>g
 |_=>⟨default,default,[],0⟩
noncomputable def Ex:Scope:=match PY with
 |.ListComp _ _ s _=>s
 |_=>default
noncomputable def Sx:PySem.Expr:=match PY with
 |.ListComp e _ _ _=>e
 |_=>default
noncomputable def iK(ρ:R):Prop:=ρ=⟨[],Ay Ex⟩∨∃a b,ρ=⟨[("name",a),("line",b)],Ay Ex⟩
noncomputable def Ts:AV->List AV
 |.tup (.str s::_)=>if s="z" then[] else[.str s]
 |_=>[]
theorem Vg:∀ws:List (Str×Int),(ws.map BE).flatMap Ts=(ws.filter λp=> !(p.1==("z":Str))).map λp=>.str p.1:=by
 intro Al
 induction Al with
 |nil=>
  exact rfl
 |cons zx ws zih=>
  obtain⟨s,k⟩:=zx
  rw[List.map_cons,List.flatMap_cons,zih]
  show(if s="z" then[] else[AV.str s])++_=_
  by_cases q:s="z"
  ·subst q
   rw[if_pos rfl,List.filter_cons_of_neg (by simp)];rfl
  ·rw[if_neg q,List.filter_cons_of_pos (by simp[q])];rfl
theorem oR{V:Nat}{ws:List (Str×Int)}(h:ws.length<2000):∃ρ',B6 (compTurn (E V (n+3)) (A5 CU.sc Ex) Km.target Km.ifs (BF (E V (n+3)) (A5 CU.sc Ex) Sx [])) (ws.map BE) [] ⟨[],Ay Ex⟩=some ((ws.filter λp=> !(p.1==("z":Str))).map λp=>.str p.1,ρ'):=by
 refine Ak (ML (body:=compTurn (E V (n+3)) (A5 CU.sc Ex) Km.target Km.ifs (BF (E V (n+3)) (A5 CU.sc Ex) Sx [])) (At:=iK) (f:=Ts) (its:=ws.map BE) (acc:=[]) (ρ:=⟨[],Ay Ex⟩)
  (by
   intro v hv acc ρ ha a
   obtain⟨⟨s,k⟩,_,rfl⟩:=List.mem_map.mp hv
   have Cp:BS (A5 CU.sc Ex) Km.target (BE (s,k)) ρ=some ⟨[("name",.str s),("line",.int k)],Ay Ex⟩:=by
    obtain rfl|⟨_,_,rfl⟩:=a<;>rfl
   have t:(E V (n+3)).t (A5 CU.sc Ex) (Km.ifs.headD default) ⟨[("name",.str s),("line",.int k)],Ay Ex⟩=some (!(s==("z":Str)),⟨[("name",.str s),("line",.int k)],Ay Ex⟩):=rfl
   by_cases q:s="z"
   ·have b:(!(s==("z":Str)))=false:=by rw[q];simp
    refine⟨⟨[("name",.str s),("line",.int k)],Ay Ex⟩,VG Cp (Br b t) ((if_neg Bool.false_ne_true).trans ?_),.inr ⟨_,_,rfl⟩⟩
    show some (acc,_)=some (acc++(if s="z" then[] else[.str s]),_)
    rw[if_pos q,List.append_nil]
   ·have b:(!(s==("z":Str)))=true:=by rw[beq_false_of_ne q];rfl
    refine⟨⟨[("name",.str s),("line",.int k)],Ay Ex⟩,VG Cp (Br b t) ((if_pos rfl).trans ((Pl rfl (by exact Ah 0x16c186a0530116a15f905301 Aa ha)).trans ?_)),.inr ⟨_,_,rfl⟩⟩
    show some (acc++[.str s],_)=some (acc++(if s="z" then[] else[.str s]),_)
    rw[if_neg q]) (by rw[Vg,List.length_map];have:=List.length_filter_le (λp:Str×Int=> !(p.1==("z":Str))) ws;simp only[List.length_nil];exact Ac 0x16c15f90534110214a011116a7d03301 Aa this h) (.inl rfl)) λρ' h1 _=>?_
 rw[List.nil_append,Vg] at h1
 exact⟨ρ',h1⟩
noncomputable def Two.Ok(x:Two)(k:Nat):Prop:=(∀v∈x.p1,DB v)/\(∀v∈x.p2,DB v)/\x.p1.length<=k/\x.p2.length<=k/\x.gone.length<=k
theorem Two.Ok.hour{x:Two}{O:List Int}{cs:List Str}(a:x.Ok k)(nc:∀v∈cs,DB v)(hc:cs.length<=2):(x.hour O T h cs).Ok (k+2):=by
 revert a;refine SN λa1 a2 a3 a4 a5=>?_
 have na:∀v∈x.p1++cs,DB v:= λv hv=>(List.mem_append.mp hv).elim (a1 v) (nc v)
 have m1:=Rh (b:=decide ((h:Int)∈O)) na
 have m2:=Rh (b:=decide ((h:Int)∈T)) (TU a2 m1.2)
 have l1:=Vp (decide ((h:Int)∈O)) (x.p1++cs)
 have l2:=Vh x.p2 (Cc (decide ((h:Int)∈O)) (x.p1++cs)).1
 have l3:=Vp (decide ((h:Int)∈T)) (GB x.p2 (Cc (decide ((h:Int)∈O)) (x.p1++cs)).1)
 have l4:=Yz x.gone h (Cc (decide ((h:Int)∈T)) (GB x.p2 (Cc (decide ((h:Int)∈O)) (x.p1++cs)).1)).1
 rw[List.length_append] at l1
 exact⟨m1.1,m2.1,by show(Cc _ _).2.length<=_;exact A7 0x14c422213114a401113114a211114a2201 Aa l1 a3 hc,by show(Cc _ _).2.length<=_;exact A7 0x14c422113114a213114a412012114a1101 Aa l3 l2 a4,by show(Iu _ _ _).length<=_;exact Ap 0x14c422112114a412012114a1101 Aa l4 a5⟩
noncomputable def Two.run(O T:List Int)(c0 c1 c2 c3 c4 c5:List Str):Two:=((((((⟨[],[],[]⟩:Two).hour O T 0 c0).hour O T 1 c1).hour O T 2 c2).hour O T 3 c3).hour O T 4 c4).hour O T 5 c5
theorem Wf{p:List Str}(h:∀v∈p,DB v)(hz:Z z):((p.map (λv=>(v,(1:Int)))++zW z).filter λp=> !(p.1==("z":Str))).map (λp=>AV.str p.1)=p.map .str:=by
 rw[List.filter_append]
 have e:(zW z).filter (λp=> !(p.1==("z":Str)))=[]:=by
  obtain rfl|rfl:=hz
  ·rw[show zW [122]=[(("z":Str),(1:Int))] from rfl,List.filter_cons_of_neg (by simp)];rfl
  ·rfl
 rw[e,List.append_nil,List.filter_eq_self.mpr (λq hq=>by
  refine Ak (List.mem_map.mp hq) λv hv Ar=>?_;obtain rfl:=Ar
  simp[(h v hv).2.2]),List.map_map]
 rfl
theorem aA{V:Nat}{O:List Int}{c3:List Str}(hW:V=W+50)(nm:∀c∈[c0,c1,c2,c3,c4,c5],(∀v∈c,DB v)/\c.length<=2):
 ∃ρ',BL (E V (n+25)) tp "_law_by_lines" [.list (O.map .int),.list (T.map .int),Bw [c0,c1,c2,c3,c4,c5]] []=some (.tup [.list (Bi (Two.run O T c0 c1 c2 c3 c4 c5).gone),.list (((Two.run O T c0 c1 c2 c3 c4 c5).p2++(Two.run O T c0 c1 c2 c3 c4 c5).p1).map .str)],ρ'):=by
 have Hd:V=W+45+5:=by exact Nat.le_antisymm (Ac 0x14c45242d23110114b432231101 Aa hW) (Ac 0x14c0145242d231115b432231101 Aa hW)
 have k0:(⟨[],[],[]⟩:Two).Ok 0:=⟨λ_ h=>(nomatch h),λ_ h=>(nomatch h),Nat.le_refl _,Nat.le_refl _,Nat.le_refl _⟩
 have m0:=nm c0 (by simp)
 refine D3 (Kk (n:=n+6) (cm:=[c0,c1,c2,c3,c4,c5]) (T:=T) (O:=O) (x:=(⟨[],[],[]⟩:Two)) (z1:=[122]) (z2:=[122]) (tl:=([]:List (Str×AV))) (h:=0) (cs:=c0) Hd rfl (by exact AE 0x16c642302 Aa) (.inl rfl) (.inl rfl) (.inl rfl) k0.1 k0.2.1 m0.1 (by have:=k0.2.2;exact Ac 0x16c384334011114a021114a2201 Aa this.1 m0.2) (by have:=k0.2.2;exact Ah 0x16c384330114a0201 Aa this.1) (by have:=k0.2.2;exact Ah 0x16c384330114a0201 Aa this.2.2)) λy0 w0 Mx Mr u9 qW e0=>?_
 have k1:=k0.hour (O:=O) (T:=T) (h:=0) m0.1 m0.2
 have m1:=nm c1 (by simp)
 refine D3 (Kk (n:=n+6) (cm:=[c0,c1,c2,c3,c4,c5]) (T:=T) (O:=O) (x:=((⟨[],[],[]⟩:Two).hour O T 0 c0)) (z1:=y0) (z2:=w0) (tl:=Mx) (h:=1) (cs:=c1) Hd rfl (by exact AE 0x16c642312 Aa) qW Mr u9 k1.1 k1.2.1 m1.1 (by have:=k1.2.2;exact Ac 0x16c384334011114a422021114a2201 Aa this.1 m1.2) (by have:=k1.2.2;exact Ah 0x16c384330114a4220201 Aa this.2.1) (by have:=k1.2.2;exact Ah 0x16c384330114a4220201 Aa this.2.2)) λy1 w1 BX vE Si qT e1=>?_
 have k2:=k1.hour (O:=O) (T:=T) (h:=1) m1.1 m1.2
 have m2:=nm c2 (by simp)
 refine D3 (Kk (n:=n+6) (cm:=[c0,c1,c2,c3,c4,c5]) (T:=T) (O:=O) (x:=(((⟨[],[],[]⟩:Two).hour O T 0 c0).hour O T 1 c1)) (z1:=y1) (z2:=w1) (tl:=BX) (h:=2) (cs:=c2) Hd rfl (by exact AE 0x16c642322 Aa) qT vE Si k2.1 k2.2.1 m2.1 (by have:=k2.2.2;exact Ac 0x16c384334011114a422422021114a2201 Aa this.1 m2.2) (by have:=k2.2.2;exact Ah 0x16c384330114a4224220201 Aa this.2.1) (by have:=k2.2.2;exact Ah 0x16c384330114a4224220201 Aa this.2.2)) λy2 w2 C4 Sk r5 qX e2=>?_
 have k3:=k2.hour (O:=O) (T:=T) (h:=2) m2.1 m2.2
 have m3:=nm c3 (by simp)
 refine D3 (Kk (n:=n+6) (cm:=[c0,c1,c2,c3,c4,c5]) (T:=T) (O:=O) (x:=((((⟨[],[],[]⟩:Two).hour O T 0 c0).hour O T 1 c1).hour O T 2 c2)) (z1:=y2) (z2:=w2) (tl:=C4) (h:=3) (cs:=c3) Hd rfl (by exact AE 0x16c642332 Aa) qX Sk r5 k3.1 k3.2.1 m3.1 (by have:=k3.2.2;exact Ac 0x16c384334011114a422422422021114a2201 Aa this.1 m3.2) (by have:=k3.2.2;exact Ah 0x16c384330114a4224224220201 Aa this.2.1) (by have:=k3.2.2;exact Ah 0x16c384330114a4224224220201 Aa this.2.2)) λy3 w3 EQ qL pW uU e3=>?_
 have k4:=k3.hour (O:=O) (T:=T) (h:=3) m3.1 m3.2
 have m4:=nm c4 (by simp)
 refine D3 (Kk (n:=n+6) (cm:=[c0,c1,c2,c3,c4,c5]) (T:=T) (O:=O) (x:=(((((⟨[],[],[]⟩:Two).hour O T 0 c0).hour O T 1 c1).hour O T 2 c2).hour O T 3 c3)) (z1:=y3) (z2:=w3) (tl:=EQ) (h:=4) (cs:=c4) Hd rfl (by exact AE 0x16c642342 Aa) uU qL pW k4.1 k4.2.1 m4.1 (by have:=k4.2.2;exact Ac 0x16c384334011114a422422422422021114a2201 Aa this.1 m4.2) (by have:=k4.2.2;exact Ah 0x16c384330114a4224224224220201 Aa this.2.1) (by have:=k4.2.2;exact Ah 0x16c384330114a4224224224220201 Aa this.2.2)) λy4 w4 Ju rI rJ rS e4=>?_
 have k5:=k4.hour (O:=O) (T:=T) (h:=4) m4.1 m4.2
 have m5:=nm c5 (by simp)
 refine D3 (Kk (n:=n+6) (cm:=[c0,c1,c2,c3,c4,c5]) (T:=T) (O:=O) (x:=((((((⟨[],[],[]⟩:Two).hour O T 0 c0).hour O T 1 c1).hour O T 2 c2).hour O T 3 c3).hour O T 4 c4)) (z1:=y4) (z2:=w4) (tl:=Ju) (h:=5) (cs:=c5) Hd rfl (by exact AE 0x16c642352 Aa) rS rI rJ k5.1 k5.2.1 m5.1 (by have:=k5.2.2;exact Ac 0x16c384334011114a422422422422422021114a2201 Aa this.1 m5.2) (by have:=k5.2.2;exact Ah 0x16c384330114a4224224224224220201 Aa this.2.1) (by have:=k5.2.2;exact Ah 0x16c384330114a4224224224224220201 Aa this.2.2)) λy5 w5 HB RF RK u7 e5=>?_
 have k6:=k5.hour (O:=O) (T:=T) (h:=5) m5.1 m5.2
 have run:BP (forTurn (E V (n+24)) CU.sc (BD Gc) (AB Gc)) [.int (0:Nat),.int (1:Nat),.int (2:Nat),.int (3:Nat),.int (4:Nat),.int (5:Nat)] (lF (Bw [c0,c1,c2,c3,c4,c5]) T O [] [122] [] [122] (Bi []) [])=
  some (.next,lF (Bw [c0,c1,c2,c3,c4,c5]) T O (Two.run O T c0 c1 c2 c3 c4 c5).p1 y5 (Two.run O T c0 c1 c2 c3 c4 c5).p2 w5 (Bi (Two.run O T c0 c1 c2 c3 c4 c5).gone) HB):=BH e0 (BH e1 (BH e2 (BH e3 (BH e4 (BH e5 rfl)))))
 have ok:(Two.run O T c0 c1 c2 c3 c4 c5).Ok 12:=k6
 clear e0 e1 e2 e3 e4 e5 k0 k1 k2 k3 k4 k5 k6
 generalize Two.run O T c0 c1 c2 c3 c4 c5=x at run ok ⊢
 revert ok;refine SN λo1 o2 d1 d2 d3=>?_
 have t1:=UD Hd RK o2 (Nat.lt_of_le_of_lt d2 (by exact AE 0x16c38433c2 Aa))
 have t2:=UD Hd RF o1 (Nat.lt_of_le_of_lt d1 (by exact AE 0x16c38433c2 Aa))
 have z1:(zW w5).length<=1:=by obtain rfl|rfl:=RK<;>decide+kernel
 have z2:(zW y5).length<=1:=by obtain rfl|rfl:=RF<;>decide+kernel
 refine Ak (QQ (n:=n+2) t1 (by simp;exact Ac 0x16c384334110114a121114ac201 Aa z1 d2) (by simp;exact A7 0x16c014312114a123114ac22115b45242d231101 Aa z1 d2 Hd)) λXy a1 a2=>?_
 refine Ak (QQ (n:=n+2) t2 (by simp;exact Ac 0x16c384334110114a121114ac201 Aa z2 d1) (by simp;exact A7 0x16c014312114a123114ac22115b45242d231101 Aa z2 d1 Hd)) λXz b1 b2=>?_
 obtain⟨ρc,i1⟩:=oR (V:=V) (n:=n+19) (ws:=(x.p2.map (λv=>(v,(1:Int)))++zW w5)++(x.p1.map (λv=>(v,(1:Int)))++zW y5)) (by simp;exact A7 0x16c7d0334443101211114a123114a122114ac21114ac201 Aa z2 z1 d2 d1)
 rw[List.filter_append,List.map_append (f:=BE),List.map_append (f:= λp:Str×Int=>AV.str p.1),Wf o2 RK,Wf o1 RF,<-List.map_append (f:=AV.str)] at i1
 have last:∃R6,AQ (E V (n+24)) tp V CU.sc (at' CU.body 4) (lF (Bw [c0,c1,c2,c3,c4,c5]) T O x.p1 y5 x.p2 w5 (Bi x.gone) HB)=some (.ret (.tup [.list (Bi x.gone),.list ((x.p2++x.p1).map .str)]),R6):=by
  obtain rfl|⟨_,rfl|⟨_,rfl⟩⟩:=u7
  ·exact⟨_,CB (G9 (B7 rfl (Bp (Ed (Cg rfl (Cr (Bt (IH rfl rfl IS rfl rfl (DD rfl a1 a2 rfl rfl rfl) rfl rfl rfl rfl) (IH rfl rfl IS rfl rfl (DD rfl b1 b2 rfl rfl rfl) rfl rfl rfl rfl) (I0 (by simp;show _<=100000;exact A7 0x14c186a0534431014211114a123114a122114ac21114ac201 Aa z2 z1 d2 d1))) rfl rfl) i1 rfl)) rfl) rfl) (by show 2<=100000;exact AE 0x14c186a05322 Aa))⟩
  ·exact⟨_,CB (G9 (B7 rfl (Bp (Ed (Cg rfl (Cr (Bt (IH rfl rfl IS rfl rfl (DD rfl a1 a2 rfl rfl rfl) rfl rfl rfl rfl) (IH rfl rfl IS rfl rfl (DD rfl b1 b2 rfl rfl rfl) rfl rfl rfl rfl) (I0 (by simp;show _<=100000;exact A7 0x14c186a0534431014211114a123114a122114ac21114ac201 Aa z2 z1 d2 d1))) rfl rfl) i1 rfl)) rfl) rfl) (by show 2<=100000;exact AE 0x14c186a05322 Aa))⟩
  ·exact⟨_,CB (G9 (B7 rfl (Bp (Ed (Cg rfl (Cr (Bt (IH rfl rfl IS rfl rfl (DD rfl a1 a2 rfl rfl rfl) rfl rfl rfl rfl) (IH rfl rfl IS rfl rfl (DD rfl b1 b2 rfl rfl rfl) rfl rfl rfl rfl) (I0 (by simp;show _<=100000;exact A7 0x14c186a0534431014211114a123114a122114ac21114ac201 Aa z2 z1 d2 d1))) rfl rfl) i1 rfl)) rfl) rfl) (by show 2<=100000;exact AE 0x14c186a05322 Aa))⟩
 obtain⟨R6,last⟩:=last
 exact⟨R6,CV fX rfl (Cz (Aq rfl (Aq rfl (Aq rfl (Aq (E0 rfl rfl rfl run) (A3 last))))) rfl)⟩
noncomputable def F6:BG:=defAt tp 16
theorem cU:B4 tp "_law_by_hours"=some F6:=rfl
noncomputable def GP:Stmt:=at' F6.body 3
noncomputable def Jf(L:List Nat):AV:=.list (L.map λ(k:Nat)=>AV.int k)
noncomputable def bF(q:AV)(T O:List Nat)(g:List AV)(i j:Nat)(tl:List (Str×AV)):R:=
 ⟨("queue",q)::("two",Jf T)::("one",Jf O)::("gone",.ol g)::("i",.int i)::("j",.int j)::tl,λ_=>false⟩
noncomputable def EY:List Nat->Prop:=List.Pairwise (· <·)
theorem WH(hO:EY O)(i h:Nat)(hi:i<=O.length):∃k,i<=k/\k<=O.length/\O.drop k=(O.drop i).dropWhile (λx=>decide (x<h))/\∀m v,i<=m->O[m]? =some v->decide (v<h)=decide (m<k):=by
 induction O generalizing i with
 |nil=>
  refine⟨0,by simpa using hi,Nat.le_refl _,?_,λm v _ e=>by simp at e⟩
  simp
 |cons a r ih=>
  have hr:EY r:=(List.pairwise_cons.mp hO).2
  have ha:∀b∈r,a<b:=(List.pairwise_cons.mp hO).1
  cases i with
  |succ i=>
   refine Ir (ih hr i (by simpa using hi)) λk k1 k2 k3 k4=>?_
   refine⟨k+1,by exact Ac 0x14c412114120114a1101 Aa k1,by simpa using k2,by simpa using k3,λm v hm e=>?_⟩
   obtain⟨m,rfl⟩:∃m',m=m'+1:=⟨m - 1,by exact Nat.le_antisymm (Ac 0x14c412110114a4121101 Aa Bl) (Ac 0x14c114120114b1141201 Aa (Nat.sub_add_cancel (Ac 0x14c111214a1141201 Aa hm)))⟩
   rw[k4 m v (by exact Ac 0x14c110114a4121141201 Aa hm) (by simpa using e)]
   simp
  |zero=>
   by_cases c:a<h
   ·refine Ir (ih hr 0 (Nat.zero_le _)) λk k1 k2 k3 k4=>?_
    refine⟨k+1,by exact Ah 0x14c4120102 Aa,by simpa using k2,?_,λm v hm e=>?_⟩
    ·rw[List.drop_zero,List.dropWhile_cons_of_pos (by simpa using c)]
     simpa using k3
    ·cases m with
     |zero=>(revert e;refine As λc0=>?_;subst c0);simp[c]
     |succ m=>
      rw[k4 m v (Nat.zero_le _) (by simpa using e)]
      simp
   ·refine⟨0,Nat.le_refl _,Nat.zero_le _,?_,λm v _ e=>?_⟩
    ·rw[List.drop_zero,List.dropWhile_cons_of_neg (by simpa using c)]
    ·have hv:a<=v:=by
      cases m with
      |zero=>(revert e;refine As λc0=>?_;subst c0);exact Nat.le_refl _
      |succ m=>exact Nat.le_of_lt (ha v (List.mem_of_getElem? (by simpa using e)))
     simp;exact Ap 0x14c211114a210117a1101 Aa hv c
theorem UH{V:Nat}{i:Nat}(hl:O.length<100)(hV:O.length<V)(hi:i<=k)(hk:k<=O.length)(hc:∀m v,i<=m->O[m]? =some v->decide (v<h)=decide (m<k)):
 ∃ρ',BL (E V (n+8)) tp "bisect_left" [Jf O,.int h,.int i] []=some (.int k,ρ'):=by
 obtain⟨ρ',e⟩:=P0 (W:=V) (n:=n) (x:=.int h) (xs:=O.map λ(k:Nat)=>.int k) (k:=k) (lo:=i) ⟨rfl,rfl,rfl⟩ (by rw[List.length_map];exact Ah 0x16c186a0530116a642301 Aa hl) (by rw[List.length_map];exact hV) (λm v hm e=>by
  rw[List.getElem?_map] at e
  cases e':O[m]? with
  |none=>rw[e'] at e;cases e
  |some w=>
   rw[e'] at e
   (revert e;refine As λc0=>?_;subst c0)
   show some (decide ((w:Int)<(h:Int)))=_
   rw[<-hc m w hm e']
   congr 1
   exact decide_eq_decide.mpr (by exact⟨λBk=>Ac 0x16c110112a711701 Aa Bk,λBk=>Ac 0x12c71170116a1101 Aa Bk⟩)) hi (by rw[List.length_map];exact hk)
 exact⟨ρ',CV Ly rfl e⟩
noncomputable def DY(h:Nat)(O T:List Nat):Option Nat×List Nat×List Nat:=match O.dropWhile (λx=>decide (x<h)) with
 |[]=>(none,[],T)
 |a::O'=>match T.dropWhile (λx=>decide (x<a)) with
  |[]=>(none,O',[])
  |b::T'=>(some b,O',T')
noncomputable def IQ(g:List (Str×Nat))(s:Str):Option Nat->List (Str×Nat)
 |some b=>g++[(s,b)]
 |none=>g
noncomputable def Mj(tl:List (Str×AV)):Prop:=tl=[]∨∃a b,tl=([("hour",a),("name",b)]:List (Str×AV))
theorem PW{a:Nat}(h:O[k]? =some a)(hl:O.length<100):El (Jf O) (.int k)=some (.int a):=by
 refine DW (by rw[List.getElem?_map,h];rfl) ?_
 have:=(List.getElem?_eq_some_iff.mp h).1
 exact Ac 0x16c186a0531116a011116a642301 Aa this hl
theorem Tj{a:Nat}{r:List Nat}(h:O.drop k=a::r):O[k]? =some a/\O.drop (k+1)=r/\k<O.length:=by
 have h1:(O.drop k)[0]? =some a:=by rw[h];rfl
 rw[List.getElem?_drop,Nat.add_zero] at h1
 refine⟨h1,?_,(List.getElem?_eq_some_iff.mp h1).1⟩
 rw[<-List.drop_drop,h];rfl
theorem drop_nil(h:O.drop k=[])(hk:k<=O.length):k=O.length:=by
 have:=congrArg List.length h
 simp at this;exact Nat.le_antisymm (Ac 0x14c110114a1101 Aa hk) (Ap 0x14c210114b021114a4211101 Aa this Bl)
theorem Wa(O:List Nat):Re (Jf O)=some O.length:=by show some (O.map _).length=_;rw[List.length_map]
noncomputable def Ol:Stmt->List Stmt
 |.If _ b _ _=>b
 |_=>[]
theorem fM{V:Nat}{q:AV}{T:List Nat}{i:Nat}{s:Str}(hO:EY O)(hT:EY T)(lO:O.length<100)(lT:T.length<100)(hV:100<V)(hi:i<=O.length)(hj:j<=T.length)(hg:g.length<1000)(z:Mj tl):
 ∃i' j' AJ,i'<=O.length/\j'<=T.length/\Mj AJ/\DY h (O.drop i) (T.drop j)=((DY h (O.drop i) (T.drop j)).1,O.drop i',T.drop j')/\
  forTurn (E V (n+14)) F6.sc (BD GP) (AB GP) (BA (h,s)) (bF q T O (Bi g) i j tl)=some (.next,bF q T O (Bi (IQ g s (DY h (O.drop i) (T.drop j)).1)) i' j' AJ):=by
 refine Ir (WH hO i h hi) λk k1 k2 k3 k4=>?_
 obtain⟨ρ1,e1⟩:=UH (V:=V) (n:=n+4) lO (by exact Ac 0x16c110116a11642316a642301 Aa hV lO) k1 k2 k4
 obtain⟨BX,t1,a1⟩:∃BX,BX=([("hour",.int h),("name",.str s)]:List (Str×AV))/\BS F6.sc (BD GP) (BA (h,s)) (bF q T O (Bi g) i j tl)=some (bF q T O (Bi g) i j BX):=by
  obtain rfl|⟨_,_,rfl⟩:=z<;>exact⟨_,rfl,rfl⟩
 subst t1
 have z1:Mj ([("hour",.int h),("name",.str s)]:List (Str×AV)):=.inr ⟨_,_,rfl⟩
 have s0:AQ (E V (n+13)) tp V F6.sc (at' (AB GP) 0) (bF q T O (Bi g) i j [("hour",.int h),("name",.str s)])=some (.next,bF q T O (Bi g) k j [("hour",.int h),("name",.str s)]):=
  BK (Dp rfl rfl e1 rfl rfl rfl rfl rfl rfl) rfl rfl
 have Sr:∀{i j:Nat},(E V (n+13)).t F6.sc (match at' (AB GP) 1 with|.If t _ _ _=>t|_=>default) (bF q T O (Bi g) i j [("hour",.int h),("name",.str s)])=some (decide ((i:Int)<(O.length:Int)),bF q T O (Bi g) i j [("hour",.int h),("name",.str s)]):=by
  intro i j
  exact B1 rfl rfl (Dn rfl rfl (Wa O) (by show _<=100000;exact Ah 0x14c186a0530116a642301 Aa lO) rfl rfl) rfl rfl
 unfold DY
 rw[<-k3]
 cases d:O.drop k with
 |nil=>
  have hk:=drop_nil d k2
  refine⟨k,j,_,k2,hj,z1,by rw[d],turn a1 (Aq s0 (A3 (AZ (Br (decide_eq_false (by exact Ac 0x13c71170115b1101 Aa hk)) Sr) rfl)))⟩
 |cons a O'=>
  refine DG (Tj d) λd1 d2 d3=>?_
  refine Ir (WH hT j a hj) λl l1 l2 l3 l4=>?_
  obtain⟨AD,e2⟩:=UH (V:=V) (n:=n+3) lT (by exact Ac 0x16c110116a11642316a642301 Aa hV lT) l1 l2 l4
  have s1:AQ (E V (n+12)) tp V F6.sc (at' (Ol (at' (AB GP) 1)) 0) (bF q T O (Bi g) k j [("hour",.int h),("name",.str s)])=some (.next,bF q T O (Bi g) k l [("hour",.int h),("name",.str s)]):=
   BK (Dp (B7 rfl (B7 (BM rfl rfl rfl (PW d1 lO) rfl rfl) (B7 rfl JL rfl) rfl) rfl) rfl e2 rfl rfl rfl rfl rfl rfl) rfl rfl
  have XG:∀{i j:Nat},(E V (n+12)).t F6.sc (match at' (Ol (at' (AB GP) 1)) 2 with|.If t _ _ _=>t|_=>default) (bF q T O (Bi g) i j [("hour",.int h),("name",.str s)])=some (decide ((j:Int)<(T.length:Int)),bF q T O (Bi g) i j [("hour",.int h),("name",.str s)]):=by
   intro i j
   exact B1 rfl rfl (Dn rfl rfl (Wa T) (by show _<=100000;exact Ah 0x14c186a0530116a642301 Aa lT) rfl rfl) rfl rfl
  dsimp only
  rw[<-l3]
  cases f:T.drop l with
  |nil=>
   have hl:=drop_nil f l2
   exact⟨k+1,l,_,d3,l2,z1,by rw[d2,f],turn a1 (Aq s0 (A3 (B3 (Br (decide_eq_true (by exact Ac 0x12c71170116a1101 Aa d3)) Sr) (Aq s1 (Aq rfl (A3 (AZ (Br (decide_eq_false (by exact Ac 0x13c71170115b1101 Aa hl)) XG) rfl)))))))⟩
  |cons b T'=>
   obtain⟨f1,f2,f3⟩:=Tj f
   have e:Bi g++[AV.tup [.str s,.int b]]=Bi (g++[(s,b)]):=by simp[Bi]
   have hl:(Bi g).length<Bg:=by show(g.map _).length<100000;rw[List.length_map];exact Ah 0x16c186a0530116a3e83301 Aa hg
   have s2:AQ (E V (n+11)) tp V F6.sc (at' (Ol (at' (Ol (at' (AB GP) 1)) 2)) 0) (bF q T O (Bi g) (k+1) l [("hour",.int h),("name",.str s)])=some (.next,bF q T O (Bi (g++[(s,b)])) (k+1) l [("hour",.int h),("name",.str s)]):=
    DM (Bp (G9 (B7 rfl (Bp (BM rfl rfl rfl (PW f1 lT) rfl rfl) rfl) rfl) (by show 2<=100000;exact AE 0x14c186a05322 Aa)) rfl) rfl rfl (FF hl) rfl (by rw[e];rfl)
   exact⟨k+1,l+1,_,d3,f3,z1,by rw[d2,f2],turn a1 (Aq s0 (A3 (B3 (Br (decide_eq_true (by exact Ac 0x12c71170116a1101 Aa d3)) Sr) (Aq s1 (Aq rfl (A3 (B3 (Br (decide_eq_true (by exact Ac 0x12c71170116a1101 Aa f3)) XG) (Aq s2 rfl))))))))⟩
noncomputable def Ee:List (Nat×Str)->List Nat->List Nat->List (Str×Nat)->List (Str×Nat)
 |[],_,_,g=>g
 |(h,s)::q,O,T,g=>Ee q (DY h O T).2.1 (DY h O T).2.2 (IQ g s (DY h O T).1)
theorem YR(g:List (Str×Nat))(s:Str)(o:Option Nat):(IQ g s o).length<=g.length+1:=by
 cases o with
 |none=>exact Nat.le_succ _
 |some b=>show(g++_).length<=_;rw[List.length_append];exact Nat.le_refl _
theorem nS{V:Nat}{qa:AV}{T:List Nat}(hO:EY O)(hT:EY T)(lO:O.length<100)(lT:T.length<100)(hV:100<V):∀{q:List (Nat×Str)} {g:List (Str×Nat)} {i j:Nat} {tl:List (Str×AV)},i<=O.length->j<=T.length->g.length+q.length<1000->Mj tl->
 ∃i' j' AJ,Mj AJ/\BP (forTurn (E V (n+14)) F6.sc (BD GP) (AB GP)) (q.map BA) (bF qa T O (Bi g) i j tl)=some (.next,bF qa T O (Bi (Ee q (O.drop i) (T.drop j) g)) i' j' AJ):=by
 intro Al
 induction Al with
 |nil=>
  intro g i j tl _ _ _ z
  exact⟨i,j,tl,z,rfl⟩
 |cons zx q zih=>
  obtain⟨h,s⟩:=zx
  intro g i j tl hi hj hg z
  refine Fo (fM (V:=V) (n:=n) (q:=qa) (g:=g) (h:=h) (s:=s) hO hT lO lT hV hi hj (by rw[List.length_cons] at hg;exact Ac 0x16c3e8330116a3e83344121101 Aa hg) z) λi1 j1 BX k1 k2 z1 e1 e2=>?_
  have hl:=YR g s (DY h (O.drop i) (T.drop j)).1
  obtain⟨i',j',AJ,z',e'⟩:=zih (g:=IQ g s (DY h (O.drop i) (T.drop j)).1) (i:=i1) (j:=j1) (tl:=BX) k1 k2 (by rw[List.length_cons] at hg;exact Ap 0x16c3e8334112114a412012116a3e83344121101 Aa hl hg) z1
  refine⟨i',j',AJ,z',BH e2 ?_⟩
  rw[e']
  have f1:=congrArg (λp=>p.2.1) e1
  have f2:=congrArg (λp=>p.2.2) e1
  dsimp only at f1 f2
  rw[<-f1,<-f2]
  rfl
theorem aD{V:Nat}{q:List (Nat×Str)}{T:List Nat}(hO:EY O)(hT:EY T)(lO:O.length<100)(lT:T.length<100)(lq:q.length<1000)(hV:100<V):
 ∃ρ',BL (E V (n+15)) tp "_law_by_hours" [Jf O,Jf T,.list (q.map BA)] []=some (.list (Bi (Ee q O T [])),ρ'):=by
 refine DS (nS (V:=V) (n:=n) (qa:=.list (q.map BA)) (q:=q) (g:=[]) (i:=0) (j:=0) (tl:=[]) hO hT lO lT hV (Nat.zero_le _) (Nat.zero_le _) (by simpa using lq) (.inl rfl)) λi' j' AJ z' e'=>?_
 have e0:Bi []=[]:=rfl
 have last:∃ρ',AQ (E V (n+14)) tp V F6.sc (at' F6.body 4) (bF (.list (q.map BA)) T O (Bi (Ee q O T [])) i' j' AJ)=some (.ret (.list (Bi (Ee q O T []))),ρ'):=by
  obtain rfl|⟨_,_,rfl⟩:=z'<;>exact⟨_,CB rfl⟩
 obtain⟨ρ',last⟩:=last
 exact⟨ρ',CV cU rfl (Cz (Aq rfl (Aq rfl (Aq rfl (Aq (E0 rfl rfl (Cr rfl rfl rfl) e') (A3 last))))) rfl)⟩
noncomputable def Cm:BG:=defAt tp 14
theorem iX:B4 tp "_law_shares"=some Cm:=rfl
noncomputable def Ae(L:List Nat):List AV:=L.map λ(k:Nat)=>AV.int k
theorem Ra(L:List Nat):Ae L=(L.map λ(k:Nat)=>(k:Int)).map .int:=by
 rw[List.map_map];rfl
theorem C5(L:List Nat):(Ae L).length=L.length:=List.length_map _
theorem VK(k:Nat)(L:List Nat):F3 (.int k) (.list (Ae L))=some (decide (k∈L)):=by
 rw[Ra,Ml]
 congr 1
 refine decide_eq_decide.mpr ⟨λh=>?_,λh=>List.mem_map_of_mem h⟩
 refine Ak (List.mem_map.mp h) λm hm e=>?_
 rwa [<-Int.ofNat.inj e]
noncomputable def AA(f:Nat->Bool):List Nat:=(List.range 6).filter f
theorem L6(f:Nat->Bool):EY (AA f):=List.Pairwise.filter _ List.pairwise_lt_range
theorem LB(f:Nat->Bool):(AA f).length<=6:=List.length_filter_le _ _
theorem Oy{f:Nat->Bool}:k∈AA f↔k<6/\f k=true:=by
 unfold AA
 rw[List.mem_filter,List.mem_range]
noncomputable def K2(k:Nat):List Nat->List Nat
 |[]=>[k]
 |a::r=>if a<k then a::K2 k r else k::a::r
noncomputable def Q8(k:Nat):List Nat->List Nat
 |[]=>[]
 |a::r=>if a<k then a::Q8 k r else r
theorem UY(hO:EY O)(k:Nat):∃p,p<=O.length/\K2 k O=O.take p++k::O.drop p/\∀m v,O[m]? =some v->decide (v<k)=decide (m<p):=by
 induction O with
 |nil=>exact⟨0,Nat.le_refl _,rfl,λm v e=>by simp at e⟩
 |cons a r ih=>
  refine Cf (ih (List.pairwise_cons.mp hO).2) λp p1 p2 p3=>?_
  have ha:=(List.pairwise_cons.mp hO).1
  by_cases c:a<k
  ·refine⟨p+1,by simpa using p1,?_,λm v e=>?_⟩
   ·show(if a<k then _ else _)=_
    rw[if_pos c,p2];rfl
   ·cases m with
    |zero=>(revert e;refine As λc0=>?_;subst c0);simp[c]
    |succ m=>rw[p3 m v (by simpa using e)];simp
  ·refine⟨0,Nat.zero_le _,?_,λm v e=>?_⟩
   ·show(if a<k then _ else _)=_
    rw[if_neg c];rfl
   ·have hv:a<=v:=by
     cases m with
     |zero=>(revert e;refine As λc0=>?_;subst c0);exact Nat.le_refl _
     |succ m=>exact Nat.le_of_lt (ha v (List.mem_of_getElem? (by simpa using e)))
    simp;exact Ap 0x14c211114a210117a1101 Aa hv c
theorem jH(hO:EY O)(hk:k∈O):∃p,p<O.length/\Q8 k O=O.eraseIdx p/\O[p]? =some k/\∀m v,O[m]? =some v->decide (v<k)=decide (m<p):=by
 induction O with
 |nil=>cases hk
 |cons a r ih=>
  have ha:=(List.pairwise_cons.mp hO).1
  by_cases c:a<k
  ·refine Ir (ih (List.pairwise_cons.mp hO).2 ((List.mem_cons.mp hk).resolve_left (by exact λBk=>Ac 0x16a011114b1101 Aa c Bk))) λp p1 p2 p3 p4=>?_
   refine⟨p+1,by simpa using p1,?_,by simpa using p3,λm v e=>?_⟩
   ·show(if a<k then _ else _)=_
    rw[if_pos c,p2];rfl
   ·cases m with
    |zero=>(revert e;refine As λc0=>?_;subst c0);simp[c]
    |succ m=>rw[p4 m v (by simpa using e)];simp
  ·have e:a=k:=by
    rcases List.mem_cons.mp hk with rfl|h
    ·rfl
    ·have:=ha k h;exact Nat.le_antisymm (Ac 0x14c110116a1101 Aa this) (Ac 0x14c011117a1101 Aa c)
   refine⟨0,by simp,?_,by rw[e];rfl,λm v e'=>?_⟩
   ·show(if a<k then _ else _)=_
    rw[if_neg c];rfl
   ·have hv:a<=v:=by
     cases m with
     |zero=>(revert e';refine As λc0=>?_;subst c0);exact Nat.le_refl _
     |succ m=>exact Nat.le_of_lt (ha v (List.mem_of_getElem? (by simpa using e')))
    simp;exact Ap 0x14c211114a210115b1101 Aa hv e
noncomputable def cG(a b c d e f:Bool):List Nat:=AA λk=>match k with
 |0=>a
 |1=>b
 |2=>c
 |3=>d
 |4=>e
 |_=>f
theorem NA(f:Nat->Bool):AA f=cG (f 0) (f 1) (f 2) (f 3) (f 4) (f 5):=rfl
theorem iS{f:Nat->Bool}(hk:k<6)(h:f k=false):K2 k (AA f)=AA λx=>f x||x==k:=by
 rw[NA,NA]
 revert h
 refine Jg (k:=k) ?_ ?_ ?_ ?_ ?_ ?_ hk<;>(dsimp only[Nat.reduceBEq,Bool.or_false,Bool.or_true];generalize f 0=a;generalize f 1=b;generalize f 2=c;generalize f 3=d;generalize f 4=e;generalize f 5=g;revert a b c d e g;decide+kernel)
theorem aJ{f:Nat->Bool}(hk:k<6)(h:f k=true):Q8 k (AA f)=AA λx=>f x&& !(x==k):=by
 rw[NA,NA]
 revert h
 refine Jg (k:=k) ?_ ?_ ?_ ?_ ?_ ?_ hk<;>(dsimp only[Nat.reduceBEq,Bool.or_false,Bool.or_true];generalize f 0=a;generalize f 1=b;generalize f 2=c;generalize f 3=d;generalize f 4=e;generalize f 5=g;revert a b c d e g;decide+kernel)
theorem QA(k:Nat):DU (.int k):=⟨rfl,rfl,rfl⟩
theorem Qw{v:AV}(h:(Ae O)[m]? =some v):∃a,O[m]? =some a/\v=.int (a:Nat):=by
 unfold Ae at h
 rw[List.getElem?_map] at h
 cases e:O[m]? with
 |none=>rw[e] at h;cases h
 |some a=>rw[e] at h;(revert h;refine As λc0=>?_;subst c0);exact⟨a,rfl,rfl⟩
theorem VI(O:List Nat)(p k:Nat):(Ae O).take p++AV.int k::(Ae O).drop p=Ae (O.take p++k::O.drop p):=by
 simp[Ae]
theorem mS(hO:EY O)(hk:k∉O)(hl:O.length<100)(hW:100<W):
 ∃ρ',BZ (E W (n+13)) NC [("a",.ol (Ae O)),("x",.int k),("lo",.int 0),("hi",.none),("key",.none)]=some (.none,ρ')/\ρ'.get "a"=some (.ol (Ae (K2 k O))):=by
 refine Cf (UY hO k) λp p1 p2 p3=>?_
 rw[p2,<-VI]
 refine dI (QA k) (by rw[C5];exact Ah 0x16c186a0530116a642301 Aa hl) (by rw[C5];exact Ac 0x16c110116a11642316a642301 Aa hW hl) (λm v hv=>?_) (by rw[C5];exact p1)
 refine Ak (Qw hv) λa ha Ar=>?_;obtain rfl:=Ar
 rw[<-p3 m a ha]
 show some (decide ((k:Int)<(a:Int)))=_
 have KS:a≠k:= λe=>hk (e▸List.mem_of_getElem? ha)
 congr 1
 by_cases c:a<k
 ·rw[decide_eq_true c,decide_eq_false (by exact Ac 0x13c70171116a1101 Aa c)];rfl
 ·rw[decide_eq_false c,decide_eq_true (by exact(Nat.lt_or_gt_of_ne KS).elim (λA6=>Ac 0x02c70171117a110116a1101 Aa c A6) (λA6=>Ac 0x12c71170116a1101 Aa A6))];rfl
theorem bJ(hO:EY O)(hl:O.length<100)(hW:100<W):
 ∃ρ',BZ (E W (n+13)) NZ [("a",.ol (Ae O)),("x",.int k),("lo",.int 0),("hi",.none),("key",.none)]=some (.none,ρ')/\ρ'.get "a"=some (.ol (Ae (K2 k O))):=by
 refine Cf (UY hO k) λp p1 p2 p3=>?_
 rw[p2,<-VI]
 refine kB (QA k) (by rw[C5];exact Ah 0x16c186a0530116a642301 Aa hl) (by rw[C5];exact Ac 0x16c110116a11642316a642301 Aa hW hl) (λm v hv=>?_) (by rw[C5];exact p1)
 refine Ak (Qw hv) λa ha Ar=>?_;obtain rfl:=Ar
 rw[<-p3 m a ha]
 show some (decide ((a:Int)<(k:Int)))=_
 congr 1
 exact decide_eq_decide.mpr (by exact⟨λBk=>Ac 0x16c110112a711701 Aa Bk,λBk=>Ac 0x12c71170116a1101 Aa Bk⟩)
noncomputable def DV:Stmt->PySem.Expr
 |.Assign _ v _=>v
 |.Return (some v) _=>v
 |_=>default
noncomputable def Bn:PySem.Expr->PySem.Expr
 |.ListComp e _ _ _=>e
 |_=>default
noncomputable def Aj:PySem.Expr->Scope
 |.ListComp _ _ s _=>s
 |_=>default
noncomputable def A9(e:PySem.Expr)(k:Nat):Comprehension:=match e with
 |.ListComp _ gs _ _=>gs.getD k ⟨default,default,[],0⟩
 |_=>⟨default,default,[],0⟩
noncomputable def keep(P:Nat->Bool):AV->Option AV
 |.int i=>if P i.toNat then some (.int i) else none
 |_=>none
theorem MO(P:Nat->Bool)(L:List Nat):(Ae L).filterMap (keep P)=Ae (L.filter P):=by
 induction L with
 |nil=>rfl
 |cons a r ih=>
  by_cases c:P a=true
  ·rw[List.filter_cons_of_pos c]
   show(AV.int a::Ae r).filterMap (keep P)=AV.int a::Ae (r.filter P)
   rw[<-ih]
   exact List.filterMap_cons_some (if_pos c)
  ·rw[List.filter_cons_of_neg c,<-ih]
   exact List.filterMap_cons_none (if_neg c)
theorem Oc{P:Nat->Bool}(hb:P k=b)(h:Ga r sc ifs ρ=some (b,ρ))(he:r.e sc elt ρ=some (.int k,ρ)):(Ga r sc ifs ρ=some (false,ρ)/\keep P (.int k)=none)∨(Ga r sc ifs ρ=some (true,ρ)/\∃u,r.e sc elt ρ=some (u,ρ)/\keep P (.int k)=some u):=by
 subst hb
 cases c:P k with
 |false=>
  rw[c] at h
  refine .inl ⟨h,?_⟩
  show(if P k=true then _ else _)=_
  rw[c];rfl
 |true=>
  rw[c] at h
  refine .inr ⟨h,_,he,?_⟩
  show(if P k=true then _ else _)=_
  rw[c];rfl
noncomputable def Fb:PySem.Expr:=DV (at' Cm.body 0)
noncomputable def Ff:PySem.Expr:=DV (at' Cm.body 1)
noncomputable def Iv:PySem.Expr:=DV (at' Cm.body 2)
noncomputable def sK(κ L:List Nat)(sc:Scope)(k:AV):R:=⟨[("lone",.list (Ae L)),("kinds",.list (Ae κ)),("k",k)],Ay sc⟩
noncomputable def Mg(κ L:List Nat)(sc:Scope):R:=⟨[("lone",.list (Ae L)),("kinds",.list (Ae κ))],Ay sc⟩
noncomputable def VT(κ L:List Nat)(sc:Scope)(ρ:R):Prop:=ρ=Mg κ L sc∨∃k,ρ=sK κ L sc k
noncomputable def CK:List AV:=Ae (List.range 6)
theorem HJ{a:Nat}(h:O[k]? =some a)(hl:O.length<100):El (.list (Ae O)) (.int k)=some (.int a):=PW h hl
theorem Xb(a:Nat):(((a:Int).fmod 2)==1)=decide (a%2=1):=by
 rw[Bool.eq_iff_iff,beq_iff_eq,decide_eq_true_iff,Int.fmod_eq_emod_of_nonneg _ (by decide)]
 exact⟨λh=>Int.ofNat.inj h,λh=>congrArg Int.ofNat h⟩
noncomputable def P1(κ L:List Nat)(k:Nat):Bool:=decide (κ.getD k 0%2=1)&& !decide (k∈L)
noncomputable def P2(κ L:List Nat)(k:Nat):Bool:=decide (1<κ.getD k 0)&& !decide (k∈L)
theorem Wp{z:PySem.Expr}{p:Pos}{c:Bool}(h1:(A1 top W n).t sc a ρ=some (b,ρ))(h2:(A1 top W n).t sc z ρ=some (c,ρ)):(A1 top W (n+1)).t sc (.BoolOp .And [a,z] p) ρ=some (b&&c,ρ):=by
 cases b with
 |false=>exact Pg h1 rfl
 |true=>exact Pg h1 h2
theorem Q3(k:Nat)(L:List Nat):Du .NotIn (.int k) (.list (Ae L))=some (!decide (k∈L)):=by
 show(F3 _ _).map (!·)=_
 rw[VK];rfl
theorem Ph(Ce:κ.length=6)(hk:k<6):κ[k]? =some (κ.getD k 0):=by
 rw[List.getD_eq_getElem?_getD,List.getElem?_eq_getElem (by exact Ac 0x16c011116a621115b6201 Aa hk Ce)];rfl
theorem fG{V:Nat}(Ce:κ.length=6):∃ρ',B6 (compTurn (E V (n+5)) (A5 Cm.sc (Aj Fb)) (A9 Fb 0).target (A9 Fb 0).ifs (BF (E V (n+5)) (A5 Cm.sc (Aj Fb)) (Bn Fb) [])) CK [] (Mg κ L (Aj Fb))=some (Ae (AA (P1 κ L)),ρ'):=by
 refine Ak (IT (r:=E V (n+5)) (sc:=A5 Cm.sc (Aj Fb)) (t:=(A9 Fb 0).target) (ifs:=(A9 Fb 0).ifs) (elt:=Bn Fb) (At:=VT κ L (Aj Fb)) (f:=keep (P1 κ L)) (its:=CK) (ρ:=Mg κ L (Aj Fb))
  (by
   intro v hv ρ a
   obtain⟨k,hk,rfl⟩:=List.mem_map.mp hv
   have hk:=List.mem_range.mp hk
   refine⟨sK κ L (Aj Fb) (.int k),by obtain rfl|⟨_,rfl⟩:=a<;>rfl,.inr ⟨_,rfl⟩,Oc (b:=decide (κ.getD k 0%2=1)&& !decide (k∈L)) rfl (HN ?_) rfl⟩
   exact Wp (B1 rfl (Bt (BM rfl rfl rfl (HJ (Ph Ce hk) (by exact Ah 0x16c64230114b6201 Aa Ce)) rfl rfl) rfl rfl) rfl (congrArg some (Xb _)) rfl) (B1 rfl rfl rfl (Q3 k L) rfl)) (by decide+kernel) (.inl rfl)) λρ' h1 _=>?_
 rw[show CK=Ae (List.range 6) from rfl,MO] at h1
 exact⟨ρ',h1⟩
theorem iN{V:Nat}(Ce:κ.length=6):∃ρ',B6 (compTurn (E V (n+5)) (A5 Cm.sc (Aj Ff)) (A9 Ff 0).target (A9 Ff 0).ifs (BF (E V (n+5)) (A5 Cm.sc (Aj Ff)) (Bn Ff) [])) CK [] (Mg κ L (Aj Ff))=some (Ae (AA (P2 κ L)),ρ'):=by
 refine Ak (IT (r:=E V (n+5)) (sc:=A5 Cm.sc (Aj Ff)) (t:=(A9 Ff 0).target) (ifs:=(A9 Ff 0).ifs) (elt:=Bn Ff) (At:=VT κ L (Aj Ff)) (f:=keep (P2 κ L)) (its:=CK) (ρ:=Mg κ L (Aj Ff))
  (by
   intro v hv ρ a
   obtain⟨k,hk,rfl⟩:=List.mem_map.mp hv
   have hk:=List.mem_range.mp hk
   refine⟨sK κ L (Aj Ff) (.int k),by obtain rfl|⟨_,rfl⟩:=a<;>rfl,.inr ⟨_,rfl⟩,Oc (b:=decide (1<κ.getD k 0)&& !decide (k∈L)) rfl (HN ?_) rfl⟩
   exact Wp (B1 rfl (BM rfl rfl rfl (HJ (Ph Ce hk) (by exact Ah 0x16c64230114b6201 Aa Ce)) rfl rfl) rfl (congrArg some (decide_eq_decide.mpr (by exact⟨λBk=>Ah 0x16c011212a70112 Aa Bk,λBk=>Ah 0x12c7011216a0112 Aa Bk⟩))) rfl) (B1 rfl rfl rfl (Q3 k L) rfl)) (by decide+kernel) (.inl rfl)) λρ' h1 _=>?_
 rw[show CK=Ae (List.range 6) from rfl,MO] at h1
 exact⟨ρ',h1⟩
noncomputable def Dv(m:Nat):List AV:=List.replicate m .none
theorem Um(m:Nat):Dv m++[AV.none]=Dv (m+1):=by
 unfold Dv
 rw[List.replicate_succ']
theorem QI(m:Nat):(Dv m).length=m:=List.length_replicate
noncomputable def BN(f:Nat->Bool)(L:List Nat)(x:Nat):Bool:=f x||decide (x∈L)
noncomputable def DR(f:Nat->Bool)(k:Nat)(x:Nat):Bool:=f x&& !(x==k)
theorem iG(f:Nat->Bool):BN f []=f:=funext λx=>by simp[BN]
theorem Zn(f:Nat->Bool)(k:Nat)(L:List Nat):BN (BN f [k]) L=BN f (k::L):=funext λx=>by
 simp only[BN,List.mem_cons,List.not_mem_nil,or_false,Bool.decide_or,Bool.or_assoc]
theorem VN{f:Nat->Bool}(hk:k<6)(h:f k=false):K2 k (AA f)=AA (BN f [k]):=by
 rw[iS hk h]
 congr 1
 funext x
 unfold BN
 congr 1
 rw[Bool.eq_iff_iff];simp
noncomputable def gK(O:Nat->Bool)(tl:List (Str×AV)):R:=⟨("one",.ol (Ae (AA O)))::tl,Ay (Aj Iv)⟩
noncomputable def NU(tl:List (Str×AV)):Prop:=tl=[]∨∃k,tl=([("k",k)]:List (Str×AV))
theorem pD{V:Nat}(hV:100<V):∀{L:List Nat} {f:Nat->Bool} {m:Nat} {tl:List (Str×AV)},L.Nodup->(∀k∈L,k<6/\f k=false)->m+L.length<1000->NU tl->
 ∃AJ,B6 (compTurn (E V (n+15)) (A5 Cm.sc (Aj Iv)) (A9 Iv 0).target (A9 Iv 0).ifs (BF (E V (n+15)) (A5 Cm.sc (Aj Iv)) (Bn Iv) [])) (Ae L) (Dv m) (gK f tl)=some (Dv (m+L.length),gK (BN f L) AJ):=by
 intro Al
 induction Al with
 |nil=>
  intro f m tl _ _ _ _
  exact⟨tl,by rw[iG];rfl⟩
 |cons k L zih=>
  intro f m tl nd hL hm z
  obtain⟨hk,hf⟩:=hL k List.mem_cons_self
  obtain⟨nk,nd'⟩:=List.nodup_cons.mp nd
  refine Ak (mS (W:=V) (n:=n+1) (O:=AA f) (k:=k) (L6 f) (λh=>by rw[(Oy.mp h).2] at hf;exact T0 hf) (Nat.lt_of_le_of_lt (LB f) (by exact AE 0x16c642362 Aa)) hV) λρ' h1 h2=>?_
  rw[VN hk hf] at h2
  obtain⟨AJ,e⟩:=zih (f:=BN f [k]) (m:=m+1) (tl:=([("k",.int k)]:List (Str×AV))) nd' (λx hx=>⟨(hL x (List.mem_cons_of_mem _ hx)).1,by
   unfold BN
   rw[(hL x (List.mem_cons_of_mem _ hx)).2,decide_eq_false (λh=>nk (by rw[<-List.mem_singleton.mp h];exact hx))];rfl⟩) (by rw[List.length_cons] at hm;exact Ac 0x16c3e8334114120116a3e83344121101 Aa hm) (.inr ⟨_,rfl⟩)
  have Cp:BS (A5 Cm.sc (Aj Iv)) (A9 Iv 0).target (.int k) (gK f tl)=some (gK f [("k",.int k)]):=by
   obtain rfl|⟨_,rfl⟩:=z<;>rfl
  refine⟨AJ,Ab (x:=(Dv (m+1),gK (BN f [k]) [("k",.int k)])) (Ng Cp ((Pl (Og rfl U3 (Bp rfl rfl) rfl (NN rfl h1 h2 rfl rfl rfl) rfl rfl rfl rfl rfl) (by rw[QI];rw[List.length_cons] at hm;exact Ac 0x16c186a0530116a3e83344121101 Aa hm)).trans ?_)) (e.trans ?_)⟩
  ·rw[Um];rfl
  ·rw[Zn,List.length_cons,show m+1+L.length=m+(L.length+1) by exact Nat.le_antisymm (Ac 0x14c4412110141141201 Aa) (Ac 0x14c4114120144121101 Aa)]
noncomputable def Eu(s:(Nat->Bool)×(Nat->Bool)×Nat):AV:=.tup [.list (Ae (AA s.1)),.list (Ae (AA s.2.1)),.list (Dv s.2.2)]
noncomputable def EA(κ L:List Nat)(f g:Nat->Bool)(m:Nat)(sh:List AV)(tl:List (Str×AV)):R:=
 ⟨("lone",.list (Ae L))::("kinds",.list (Ae κ))::("one",.ol (Ae (AA f)))::("two",.ol (Ae (AA g)))::("gave",.list (Dv m))::("shares",.ol sh)::tl,λ_=>false⟩
noncomputable def HV:Stmt:=at' Cm.body 4
theorem N8(f:Nat->Bool):D5 (.list (Ae (AA f))) none none none=some (.list (Ae (AA f))):=Hk (by rw[C5];exact Nat.le_trans (LB f) (by exact AE 0x14c186a05362 Aa)) (aF _)
theorem Q0:∀(L:List Nat) (p:Nat),(Ae L).eraseIdx p=Ae (L.eraseIdx p)
 |[],_=>rfl
 |_::_,0=>rfl
 |a::r,p+1=>congrArg (AV.int a::·) (Q0 r p)
theorem ZO{V:Nat}(hV:100<V){f g:Nat->Bool}{sh:List AV}(hk:k<6)(hf:f k=true)(hg:g k=false)(hm:m<1000)(hs:sh.length<1000)(z:NU tl):
 forTurn (E V (n+20)) Cm.sc (BD HV) (AB HV) (.int k) (EA κ L f g m sh tl)=some (.next,EA κ L (DR f k) (BN g [k]) (m+1) (sh++[Eu (DR f k,BN g [k],m+1)]) [("k",.int k)]):=by
 refine Ir (jH (L6 f) (Oy.mpr ⟨hk,hf⟩)) λp p1 p2 p3 p4=>?_
 rw[aJ hk hf] at p2
 have hl:=LB f
 have u5:=LB g
 obtain⟨ρ1,e1⟩:=P0 (W:=V) (n:=n+9) (lo:=0) (x:=.int k) (xs:=Ae (AA f)) (k:=p) (QA k) (by rw[C5];exact Ah 0x16c186a0530114a6201 Aa hl) (by rw[C5];exact Ac 0x16c011114a621116a016423 Aa hl hV) (λm v _ hv=>by
  obtain⟨a,ha,rfl⟩:=Qw hv
  rw[<-p4 m a ha]
  show some (decide ((a:Int)<(k:Int)))=_
  exact congrArg some (decide_eq_decide.mpr (by exact⟨λBk=>Ac 0x16c110112a711701 Aa Bk,λBk=>Ac 0x12c71170116a1101 Aa Bk⟩))) (Nat.zero_le _) (by rw[C5];exact Ac 0x14c110116a1101 Aa p1)
 refine Ak (bJ (W:=V) (n:=n+3) (O:=AA g) (k:=k) (L6 g) (by exact Ah 0x16c64230114a6201 Aa u5) hV) λAD h1 h2=>?_
 rw[VN hk hg] at h2
 have RS:Gd "pop" (Ae (AA f)) [.int p]=some (.int k,Ae (AA (DR f k))):=by
  refine Ab (AF (decide_eq_true (by rw[C5];show _<100000;exact Ah 0x16c186a0530114a6201 Aa hl))) (Ab (AF rfl) (Ab (x:=(p:Int)) rfl (Ab (AF (decide_eq_true (by exact Ah 0x10c70102 Aa))) (Ab (x:=.int k) ?_ ?_))))
  ·show(Ae (AA f))[p]? =_
   unfold Ae
   rw[List.getElem?_map,p3];rfl
  ·show some (AV.int k,(Ae (AA f)).eraseIdx p)=_
   rw[show DR f k= λx=>f x&& !(x==k) from rfl,p2]
   congr 2
   exact Q0 _ _
 have Cp:BS Cm.sc (BD HV) (.int k) (EA κ L f g m sh tl)=some (EA κ L f g m sh [("k",.int k)]):=by
  obtain rfl|⟨_,rfl⟩:=z<;>rfl
 have s0:AQ (E V (n+19)) tp V Cm.sc (at' (AB HV) 0) (EA κ L f g m sh [("k",.int k)])=some (.next,EA κ L (DR f k) g m sh [("k",.int k)]):=
  DM (Bp (L3 rfl (Bp rfl rfl) rfl rfl (CV Ly rfl e1) rfl rfl rfl rfl rfl) rfl) rfl rfl RS rfl rfl
 have s1:AQ (E V (n+19)) tp V Cm.sc (at' (AB HV) 1) (EA κ L (DR f k) g m sh [("k",.int k)])=some (.next,EA κ L (DR f k) (BN g [k]) (m+1) sh [("k",.int k)]):=by
  refine BK (Bt rfl (nZ (Bp (Og rfl UF (Bp rfl rfl) rfl (NN rfl h1 h2 rfl rfl rfl) rfl rfl rfl rfl rfl) rfl) (by show 1<=100000;exact AE 0x14c186a05312 Aa)) (I0 (by rw[QI];show m+1<=100000;exact Ah 0x14c186a0534120116a3e83301 Aa hm))) ?_ rfl
  rw[Um];rfl
 have s2:AQ (E V (n+19)) tp V Cm.sc (at' (AB HV) 2) (EA κ L (DR f k) (BN g [k]) (m+1) sh [("k",.int k)])=some (.next,EA κ L (DR f k) (BN g [k]) (m+1) (sh++[Eu (DR f k,BN g [k],m+1)]) [("k",.int k)]):=
  DM (Bp (G9 (B7 (O0 rfl rfl rfl (N8 _)) (B7 (O0 rfl rfl rfl (N8 _)) (Bp rfl rfl) rfl) rfl) (by show 3<=100000;exact AE 0x14c186a05332 Aa)) rfl) rfl rfl (FF (by show _<100000;exact Ah 0x16c186a0530116a3e83301 Aa hs)) rfl rfl
 exact turn Cp (Aq s0 (Aq s1 (A3 s2)))
noncomputable def Kq:List Nat->(Nat->Bool)->(Nat->Bool)->Nat->List ((Nat->Bool)×(Nat->Bool)×Nat)
 |[],_,_,_=>[]
 |k::L,f,g,m=>(DR f k,BN g [k],m+1)::Kq L (DR f k) (BN g [k]) (m+1)
theorem eK{V:Nat}(hV:100<V){L':List Nat}:∀{L:List Nat} {f g:Nat->Bool} {m:Nat} {sh:List AV} {tl:List (Str×AV)},L.Nodup->(∀k∈L,k<6/\f k=true/\g k=false)->m+L.length<1000->sh.length+L.length<1000->NU tl->
 ∃f' g' m' AJ,NU AJ/\BP (forTurn (E V (n+20)) Cm.sc (BD HV) (AB HV)) (Ae L) (EA κ L' f g m sh tl)=some (.next,EA κ L' f' g' m' (sh++(Kq L f g m).map Eu) AJ):=by
 intro Al
 induction Al with
 |nil=>
  intro f g m sh tl _ _ _ _ z
  exact⟨f,g,m,tl,z,by rw[show(Kq [] f g m).map Eu=[] from rfl,List.append_nil];rfl⟩
 |cons k L zih=>
  intro f g m sh tl nd hL hm hs z
  rw[List.length_cons] at hm hs
  refine DG (hL k List.mem_cons_self) λhk hf hg=>?_
  obtain⟨nk,nd'⟩:=List.nodup_cons.mp nd
  refine Jj (zih (f:=DR f k) (g:=BN g [k]) (m:=m+1) (sh:=sh++[Eu (DR f k,BN g [k],m+1)]) (tl:=([("k",.int k)]:List (Str×AV))) nd' (λx hx=>by
   obtain⟨a,b,c⟩:=hL x (List.mem_cons_of_mem _ hx)
   have ne:x≠k:= λh=>nk (h▸hx)
   refine⟨a,?_,?_⟩
   ·unfold DR;rw[b,beq_false_of_ne ne];rfl
   ·unfold BN;rw[c,decide_eq_false (λh=>ne (List.mem_singleton.mp h))];rfl) (by exact Ac 0x16c3e8334114120116a3e83344121101 Aa hm) (by simp;exact Ac 0x16c3e8334114120116a3e83344121101 Aa hs) (.inr ⟨_,rfl⟩)) λf' g' m' AJ z' e=>?_
  refine⟨f',g',m',AJ,z',BH (ZO hV hk hf hg (by exact Ac 0x16c3e8330116a3e83344121101 Aa hm) (by exact Ac 0x16c3e8330116a3e83344121101 Aa hs) z) (e.trans ?_)⟩
  rw[List.append_assoc];rfl
noncomputable def Jd(κ L:List Nat):List ((Nat->Bool)×(Nat->Bool)×Nat):=(BN (P1 κ L) L,P2 κ L,L.length)::Kq L (BN (P1 κ L) L) (P2 κ L) L.length
theorem lK{V:Nat}(hV:100<V)(Ce:κ.length=6)(nd:L.Nodup)(hL:∀k∈L,k<6)(hl:L.length<=6):
 ∃ρ',BL (E V (n+21)) tp "_law_shares" [.list (Ae κ),.list (Ae L)] []=some (.list ((Jd κ L).map Eu),ρ'):=by
 obtain⟨ρ1,e1⟩:=fG (V:=V) (n:=n+15) (κ:=κ) (L:=L) Ce
 obtain⟨AD,e2⟩:=iN (V:=V) (n:=n+15) (κ:=κ) (L:=L) Ce
 have n1:∀k∈L,P1 κ L k=false:= λk hk=>by unfold P1;rw[decide_eq_true hk];simp
 have n2:∀k∈L,P2 κ L k=false:= λk hk=>by unfold P2;rw[decide_eq_true hk];simp
 obtain⟨EQ,e3⟩:=pD hV (n:=n+5) (L:=L) (f:=P1 κ L) (m:=0) (tl:=[]) nd (λk hk=>⟨hL k hk,n1 k hk⟩) (by exact Ah 0x16c3e8334010214a6201 Aa hl) (.inl rfl)
 rw[Nat.zero_add] at e3
 refine Jj (eK hV (n:=n) (κ:=κ) (L':=L) (L:=L) (f:=BN (P1 κ L) L) (g:=P2 κ L) (m:=L.length) (sh:=[Eu (BN (P1 κ L) L,P2 κ L,L.length)]) (tl:=[]) nd (λk hk=>⟨hL k hk,by unfold BN;rw[decide_eq_true hk];simp,n2 k hk⟩) (by exact Ah 0x16c3e8334010124a6201 Aa hl) (by show 1+L.length<1000;exact Ah 0x16c3e8334011214a6201 Aa hl) (.inl rfl)) λf' g' m' AJ z' e4=>?_
 have s0:AQ (E V (n+20)) tp V Cm.sc (at' Cm.body 0) ⟨[("lone",.list (Ae L)),("kinds",.list (Ae κ))],λ_=>false⟩=some (.next,⟨[("lone",.list (Ae L)),("kinds",.list (Ae κ)),("one",.ol (Ae (AA (P1 κ L))))],λ_=>false⟩):=
  PH (Cg rfl rfl e1 rfl) rfl rfl rfl rfl
 have s1:AQ (E V (n+20)) tp V Cm.sc (at' Cm.body 1) ⟨[("lone",.list (Ae L)),("kinds",.list (Ae κ)),("one",.ol (Ae (AA (P1 κ L))))],λ_=>false⟩=some (.next,⟨[("lone",.list (Ae L)),("kinds",.list (Ae κ)),("one",.ol (Ae (AA (P1 κ L)))),("two",.ol (Ae (AA (P2 κ L))))],λ_=>false⟩):=
  PH (Cg rfl rfl e2 rfl) rfl rfl rfl rfl
 have s2:AQ (E V (n+20)) tp V Cm.sc (at' Cm.body 2) ⟨[("lone",.list (Ae L)),("kinds",.list (Ae κ)),("one",.ol (Ae (AA (P1 κ L)))),("two",.ol (Ae (AA (P2 κ L))))],λ_=>false⟩=some (.next,⟨[("lone",.list (Ae L)),("kinds",.list (Ae κ)),("one",.ol (Ae (AA (BN (P1 κ L) L)))),("two",.ol (Ae (AA (P2 κ L)))),("gave",.list (Dv L.length))],λ_=>false⟩):=
  as_list (Cg rfl (Cr rfl rfl rfl) e3 rfl) rfl rfl rfl
 have s3:AQ (E V (n+20)) tp V Cm.sc (at' Cm.body 3) ⟨[("lone",.list (Ae L)),("kinds",.list (Ae κ)),("one",.ol (Ae (AA (BN (P1 κ L) L)))),("two",.ol (Ae (AA (P2 κ L)))),("gave",.list (Dv L.length))],λ_=>false⟩=some (.next,EA κ L (BN (P1 κ L) L) (P2 κ L) L.length [Eu (BN (P1 κ L) L,P2 κ L,L.length)] []):=
  PH (Ab (Bp (G9 (B7 (O0 rfl rfl rfl (N8 _)) (B7 (O0 rfl rfl rfl (N8 _)) (Bp rfl rfl) rfl) rfl) (by show 3<=100000;exact AE 0x14c186a05332 Aa)) rfl) rfl) rfl rfl rfl rfl
 have s5:∃ρ',AQ (E V (n+20)) tp V Cm.sc (at' Cm.body 5) (EA κ L f' g' m' ([Eu (BN (P1 κ L) L,P2 κ L,L.length)]++(Kq L (BN (P1 κ L) L) (P2 κ L) L.length).map Eu) AJ)=some (.ret (.list ((Jd κ L).map Eu)),ρ'):=by
  obtain rfl|⟨_,rfl⟩:=z'<;>exact⟨_,CB rfl⟩
 obtain⟨ρ',s5⟩:=s5
 exact⟨ρ',CV iX rfl (Cz (Aq s0 (Aq s1 (Aq s2 (Aq s3 (Aq (E0 rfl rfl (Cr rfl rfl rfl) e4) (A3 s5)))))) rfl)⟩
noncomputable def B9:BG:=defAt tp 17
theorem aR:B4 tp "_law_due"=some B9:=rfl
theorem Qq(L:List Nat):Hw (Ae L)=some (L.map λ(k:Nat)=>(k:Int)):=by
 induction L with
 |nil=>rfl
 |cons a r ih=>exact Ab (x:=(a:Int)) rfl (Ab ih rfl)
theorem bV:∀(L:List Nat),(L.map λ(k:Nat)=>(k:Int)).sum=(L.sum:Nat):=by
 intro Al
 induction Al with
 |nil=>
  exact rfl
 |cons a r ih=>
  rw[List.map_cons,List.sum_cons,List.sum_cons,ih];exact Int.le_antisymm (Ac 0x10c7411014711701 Aa) (Ac 0x10c4711701741101 Aa)
theorem dL:∀(L:List Nat) (a:Nat),(L.map λ(k:Nat)=>(k:Int)).foldl min (a:Int)=(L.foldl min a:Nat):=by
 intro Al
 induction Al with
 |nil=>
  intro _
  exact rfl
 |cons b r ih=>
  intro a
  rw[List.map_cons,List.foldl_cons,List.foldl_cons,show min (a:Int) (b:Int)=(min a b:Nat) by exact Bm (λA6 Af=>DH (λAS Am=>Int.le_antisymm (IY 0x10c7110115b011110b70101 Aa Af Am) (IY 0x10c0171114b011111b70101 Aa Af Am)) (λAS Am=>Int.le_antisymm (TB 0x10c7210115b112110a71170110b70101 Aa Af AS Am) (IY 0x10c0170111b7110114a1101 Aa Am (Nat.min_le_right _ _)))) (λA6 Af=>DH (λAS Am=>Int.le_antisymm (TB 0x10c7210115b112110a71170110b70101 Aa Af AS Am) (IY 0x10c0170111b7110114a1101 Aa Am (Nat.min_le_left _ _))) (λAS Am=>Int.le_antisymm (IY 0x10c7110115b011110b70101 Aa Af Am) (IY 0x10c0171114b011111b70101 Aa Af Am))),ih]
theorem ZM(L:List Nat)(k:Nat):(Ae L).take k=Ae (L.take k):=by
 unfold Ae;rw[List.map_take]
theorem eM(L:List Nat)(k:Nat):(Ae L).drop k=Ae (L.drop k):=by
 unfold Ae;rw[List.map_drop]
theorem Uk(h:L.length<100)(u v:Nat):D5 (.list (Ae L)) (some (u:Int)) (some (v:Int)) none=some (.list (Ae ((L.take v).drop u))):=
 Hk (by rw[C5];exact Ah 0x14c186a0530116a642301 Aa h) (by rw[Uw,ZM,eM])
noncomputable def CH:PySem.Expr:=DV (at' B9.body 0)
noncomputable def Fj:PySem.Expr:=DV (at' B9.body 1)
noncomputable def Fd:PySem.Expr:=DV (at' B9.body 2)
noncomputable def dN(v w:AV):R:=⟨[("row",v),("name",w)],Ay (Aj CH)⟩
noncomputable def bG(ρ:R):Prop:=ρ=⟨[],Ay (Aj CH)⟩∨(∃v,ρ=⟨[("row",v)],Ay (Aj CH)⟩)∨∃v w,ρ=dN v w
noncomputable def Tt:AV->List AV
 |.list xs=>xs
 |_=>[]
theorem UX(cm:List (List Str)):(cm.map λc=>AV.list (c.map .str)).flatMap Tt=cm.flatten.map .str:=by
 induction cm with
 |nil=>rfl
 |cons c r ih=>rw[List.map_cons,List.flatMap_cons,ih,List.flatten_cons,List.map_append];rfl
theorem gA{V:Nat}(h:cm.flatten.length<1000):∃ρ',B6 (compTurn (E V (n+3)) (A5 B9.sc (Aj CH)) (A9 CH 0).target (A9 CH 0).ifs (BF (E V (n+3)) (A5 B9.sc (Aj CH)) (Bn CH) [A9 CH 1])) (cm.map λc=>.list (c.map .str)) [] ⟨[],Ay (Aj CH)⟩=some (cm.flatten.map .str,ρ'):=by
 refine Ak (ML (body:=compTurn (E V (n+3)) (A5 B9.sc (Aj CH)) (A9 CH 0).target (A9 CH 0).ifs (BF (E V (n+3)) (A5 B9.sc (Aj CH)) (Bn CH) [A9 CH 1])) (At:=bG) (f:=Tt) (its:=cm.map λc=>.list (c.map .str)) (acc:=[]) (ρ:=⟨[],Ay (Aj CH)⟩)
  (by
   intro v hv acc ρ ha a
   obtain⟨c,hc,rfl⟩:=List.mem_map.mp hv
   have hc:c.length<1000:=Nat.lt_of_le_of_lt (List.Sublist.length_le (List.sublist_flatten_of_mem hc)) h
   have Cp:∃ρ1,BS (A5 B9.sc (Aj CH)) (A9 CH 0).target (.list (c.map .str)) ρ=some ρ1/\(ρ1=⟨[("row",.list (c.map .str))],Ay (Aj CH)⟩∨∃w,ρ1=dN (.list (c.map .str)) w):=by
    obtain rfl|⟨_,rfl⟩|⟨_,_,rfl⟩:=a
    ·exact⟨_,rfl,.inl rfl⟩
    ·exact⟨_,rfl,.inl rfl⟩
    ·exact⟨_,rfl,.inr ⟨_,rfl⟩⟩
   obtain⟨ρ1,Cp,a1⟩:=Cp
   obtain⟨AD,h2,a2⟩:=NB (r:=E V (n+3)) (sc:=A5 B9.sc (Aj CH)) (t:=(A9 CH 1).target) (ifs:=[]) (elt:=Bn CH) (At:= λρ1=>ρ1=⟨[("row",.list (c.map .str))],Ay (Aj CH)⟩∨∃w,ρ1=dN (.list (c.map .str)) w) (f:= λv=>some v) (its:=c.map .str) (acc:=acc) (ρ:=ρ1)
    (by
     intro v hv ρ a
     obtain⟨s,hs,rfl⟩:=List.mem_map.mp hv
     refine⟨dN (.list (c.map .str)) (.str s),by obtain rfl|⟨_,rfl⟩:=a<;>rfl,.inr ⟨_,rfl⟩,.inr ⟨rfl,_,rfl,rfl⟩⟩) (by rw[List.length_map];exact Ac 0x16c17318534110116a3e8331116a15f905301 Aa hc ha) a1
   rw[List.filterMap_some] at h2
   refine⟨AD,Ng Cp (Ab (x:=(c.map AV.str,ρ1)) ?_ h2),?_⟩
   ·obtain rfl|⟨_,rfl⟩:=a1<;>exact Cr rfl rfl rfl
   ·obtain rfl|⟨_,rfl⟩:=a2
    ·exact .inr (.inl ⟨_,rfl⟩)
    ·exact .inr (.inr ⟨_,_,rfl⟩)) (by rw[UX,List.length_map,List.length_nil];exact Ah 0x16c15f90534010216a3e83301 Aa h) (.inl rfl)) λρ' h1 _=>?_
 rw[UX] at h1
 exact⟨ρ',h1⟩
noncomputable def Dw(κ:List Nat):List Nat:=κ.map (· %2)
noncomputable def E3(κ:List Nat):List Nat:=κ.map (· /2)
theorem dW{V:Nat}(h:κ.length=6):∃ρ',B6 (compTurn (E V (n+3)) (A5 B9.sc (Aj Fj)) (A9 Fj 0).target (A9 Fj 0).ifs (BF (E V (n+3)) (A5 B9.sc (Aj Fj)) (Bn Fj) [])) (Ae κ) [] ⟨[],Ay (Aj Fj)⟩=some (Ae (Dw κ),ρ'):=by
 refine Ak (Ez (r:=E V (n+3)) (sc:=A5 B9.sc (Aj Fj)) (t:=(A9 Fj 0).target) (elt:=Bn Fj) (At:= λρ=>ρ=⟨[],Ay (Aj Fj)⟩∨∃v,ρ=⟨[("kind",v)],Ay (Aj Fj)⟩) (f:= λv=>match v with|.int i=>.int (i.fmod 2)|_=>.none) (its:=Ae κ) (ρ:=⟨[],Ay (Aj Fj)⟩)
  (by
   intro v hv ρ a
   obtain⟨k,hk,rfl⟩:=List.mem_map.mp hv
   refine⟨⟨[("kind",.int k)],Ay (Aj Fj)⟩,by obtain rfl|⟨_,rfl⟩:=a<;>rfl,.inr ⟨_,rfl⟩,rfl⟩) (by rw[C5];exact Ah 0x16c15f90530114b6201 Aa h) (.inl rfl)) λρ' h1 _=>?_
 refine⟨ρ',h1.trans ?_⟩
 unfold Dw Ae
 rw[List.map_map,List.map_map]
 congr 2
 refine List.map_congr_left λa _=>?_
 show AV.int ((a:Int).fmod 2)=.int ((a%2:Nat):Int)
 rw[Int.fmod_eq_emod_of_nonneg _ (by decide)];rfl
theorem YT{V:Nat}(h:κ.length=6):∃ρ',B6 (compTurn (E V (n+3)) (A5 B9.sc (Aj Fd)) (A9 Fd 0).target (A9 Fd 0).ifs (BF (E V (n+3)) (A5 B9.sc (Aj Fd)) (Bn Fd) [])) (Ae κ) [] ⟨[],Ay (Aj Fd)⟩=some (Ae (E3 κ),ρ'):=by
 refine Ak (Ez (r:=E V (n+3)) (sc:=A5 B9.sc (Aj Fd)) (t:=(A9 Fd 0).target) (elt:=Bn Fd) (At:= λρ=>ρ=⟨[],Ay (Aj Fd)⟩∨∃v,ρ=⟨[("kind",v)],Ay (Aj Fd)⟩) (f:= λv=>match v with|.int i=>.int (i.fdiv 2)|_=>.none) (its:=Ae κ) (ρ:=⟨[],Ay (Aj Fd)⟩)
  (by
   intro v hv ρ a
   obtain⟨k,hk,rfl⟩:=List.mem_map.mp hv
   refine⟨⟨[("kind",.int k)],Ay (Aj Fd)⟩,by obtain rfl|⟨_,rfl⟩:=a<;>rfl,.inr ⟨_,rfl⟩,rfl⟩) (by rw[C5];exact Ah 0x16c15f90530114b6201 Aa h) (.inl rfl)) λρ' h1 _=>?_
 refine⟨ρ',h1.trans ?_⟩
 unfold E3 Ae
 rw[List.map_map,List.map_map]
 congr 2
 refine List.map_congr_left λa _=>?_
 show AV.int ((a:Int).fdiv 2)=.int ((a/2:Nat):Int)
 rw[Int.fdiv_eq_ediv_of_nonneg _ (by decide)];rfl
noncomputable def Ek(n:Nat):List (Nat×Nat):=(List.range (n+1)).flatMap λu=>(List.range (n+1 - u)).map λj=>(u,u+j)
noncomputable def HP(p:Nat×Nat):AV:=.tup [.int p.1,.int p.2]
noncomputable def JO(κ A:List Nat)(n:Nat)(p:Nat×Nat):Nat:=A.getD p.1 0+(((Dw κ).take p.2).drop p.1).sum+(((E3 κ).take n).drop p.2).sum
noncomputable def Hi:List Nat->Nat
 |[]=>0
 |a::r=>r.foldl min a
noncomputable def Hz(κ A:List Nat)(n:Nat):Nat:=Hi ((Ek n).map (JO κ A n))
noncomputable def Fk:Stmt:=at' B9.body 4
noncomputable def Jb:PySem.Expr:=DV (at' (AB Fk) 0)
noncomputable def Gp:PySem.Expr:=match DV (at' (AB Fk) 1) with
 |.Call _ [a] _ _=>a
 |_=>default
noncomputable def H2:PySem.Expr:=match DV (at' (AB Fk) 2) with
 |.BinOp _ _ a _=>a
 |_=>default
theorem kY{V:Nat}:∀{t:Nat},t<6->∃ρ',B6 (compTurn (E V (n+5)) (A5 B9.sc (Aj Jb)) (A9 Jb 0).target (A9 Jb 0).ifs (BF (E V (n+5)) (A5 B9.sc (Aj Jb)) (Bn Jb) [A9 Jb 1])) (Ae (List.range (t+2))) [] ⟨[("t",.int t)],Ay (Aj Jb)⟩=some ((Ek (t+1)).map HP,ρ'):=by
 intro zk zh
 refine Jg (k:=zk) ?_ ?_ ?_ ?_ ?_ ?_ zh<;>(exact⟨_,rfl⟩)
section
variable {p q:Pos}
theorem Il(h:r.e sc e ρ=some (.int i,ρ1)):IZ r sc (some e) ρ=some (some i,ρ1):=Ab h rfl
theorem Hu{lo:Option PySem.Expr}{l h:Option Int}(h1:IZ r sc lo ρ=some (l,ρ1))(h2:IZ r sc hi ρ1=some (h,AD)):Kj r sc lo hi none ρ=some ((l,h,none),AD):=Ab h1 (Ab h2 rfl)
theorem Ow(h1:Cs sc a ρ=none)(h2:(A1 top W n).e sc a ρ=some (.list (Ae L),ρ1))(g:BI a=true)(hg:BV sc "sum"=true):
 (A1 top W (n+1)).e sc (.Call (.Name "sum" q) [a] [] p) ρ=some (.int (L.sum:Nat),ρ1):=by
 rw[<-bV]
 exact Ue h1 h2 (Qq L) g hg
theorem PQ(h0:L≠[])(h1:Cs sc a ρ=none)(h2:(A1 top W n).e sc a ρ=some (.list (Ae L),ρ1))(g:BI a=true)(hg:BV sc "min"=true):
 (A1 top W (n+1)).e sc (.Call (.Name "min" q) [a] [] p) ρ=some (.int (Hi L:Nat),ρ1):=by
 cases L with
 |nil=>exact absurd rfl h0
 |cons a L=>
  show _=some (AV.int ((L.foldl min a:Nat):Int),ρ1)
  rw[<-dL]
  exact dG h1 h2 (Qq (a::L)) g hg
end
noncomputable def I2(κ A:List Nat)(t:Nat)(tl:List (Str×AV)):R:=⟨("ahead",.list (Ae A))::("first",.list (Ae (Dw κ)))::("second",.list (Ae (E3 κ)))::("t",.int t)::tl,Ay (Aj Gp)⟩
theorem Tq{p:Nat×Nat}(h:p∈Ek n):p.1<=p.2/\p.2<=n:=by
 refine Ak (List.mem_flatMap.mp h) λu hu h=>?_
 refine Ak (List.mem_map.mp h) λj hj Ar=>?_;obtain rfl:=Ar
 have:=List.mem_range.mp hu
 have:=List.mem_range.mp hj
 constructor<;>dsimp only<;>(first|exact Ac 0x14c4110101 Aa|exact HT (λA6 Af=>A7 0x14c214311116a013114b4122141101 Aa this Af) (λA6 Af=>A7 0x04c314112116a011114b0201 Aa this Af))
theorem aM(n:Nat):Ek n≠[]:=by
 intro h
 have:(0,0)∈Ek n:=List.mem_flatMap.mpr ⟨0,List.mem_range.mpr (by exact Ah 0x16c4120102 Aa),List.mem_map.mpr ⟨0,List.mem_range.mpr (by exact Ac 0x16c110214a4021141201 Aa Bl),rfl⟩⟩
 rw[h] at this
 cases this
theorem YX:∀{t:Nat},t<6->(Ek (t+1)).length<90000:=by
 intro zk zh
 refine Jg (k:=zk) ?_ ?_ ?_ ?_ ?_ ?_ zh<;>(decide+kernel)
theorem fH{V:Nat}{v:Nat}(Ce:κ.length=6)(hA:A.length=7)(hu:u<=6):
 (E V (n+6)).e (A5 B9.sc (Aj Gp)) (Bn Gp) (I2 κ A t [("u",.int u),("v",.int v)])=some (.int (JO κ A (t+1) (u,v):Nat),I2 κ A t [("u",.int u),("v",.int v)]):=by
 have h1:A[u]? =some (A.getD u 0):=by
  rw[List.getD_eq_getElem?_getD,List.getElem?_eq_getElem (by exact Ac 0x16c011114a621115b7201 Aa hu hA)];rfl
 have l1:(Dw κ).length<100:=by unfold Dw;rw[List.length_map];exact Ah 0x16c64230114b6201 Aa Ce
 have l2:(E3 κ).length<100:=by unfold E3;rw[List.length_map];exact Ah 0x16c64230114b6201 Aa Ce
 exact Bt (Bt (BM rfl rfl rfl (HJ h1 (by exact Ah 0x16c64230114b7201 Aa hA)) rfl rfl) (Ow rfl (Dm rfl rfl rfl (Uk l1 u v)) rfl rfl) rfl) (Ow rfl (Dm rfl rfl rfl (Uk l2 v (t+1))) rfl rfl) rfl
theorem Z8{V:Nat}(Ce:κ.length=6)(hA:A.length=7)(ht:t<6):∃ρ',B6 (compTurn (E V (n+6)) (A5 B9.sc (Aj Gp)) (A9 Gp 0).target (A9 Gp 0).ifs (BF (E V (n+6)) (A5 B9.sc (Aj Gp)) (Bn Gp) [])) ((Ek (t+1)).map HP) [] (I2 κ A t [])=some (Ae ((Ek (t+1)).map (JO κ A (t+1))),ρ')/\∃tl,ρ'=I2 κ A t tl:=by
 refine Ak (Ez (r:=E V (n+6)) (sc:=A5 B9.sc (Aj Gp)) (t:=(A9 Gp 0).target) (elt:=Bn Gp) (At:= λρ=>ρ=I2 κ A t []∨∃u v,ρ=I2 κ A t [("u",u),("v",v)]) (f:= λv=>match v with|.tup [.int u,.int v]=>.int (JO κ A (t+1) (u.toNat,v.toNat):Nat)|_=>.none) (its:=(Ek (t+1)).map HP) (ρ:=I2 κ A t [])
  (by
   intro w hv ρ a
   obtain⟨⟨u,v⟩,hk,rfl⟩:=List.mem_map.mp hv
   obtain⟨k1,k2⟩:=Tq hk
   refine⟨I2 κ A t [("u",.int u),("v",.int v)],by obtain rfl|⟨_,_,rfl⟩:=a<;>rfl,.inr ⟨_,_,rfl⟩,?_⟩
   exact fH Ce hA (by dsimp only at k1 k2;exact Ap 0x14c621114a412012114a211116a6201 Aa k2 k1 ht)) (by rw[List.length_map];exact YX ht) (.inl rfl)) λρ' h1 h2=>?_
 refine⟨ρ',h1.trans ?_,by obtain rfl|⟨_,_,rfl⟩:=h2<;>exact⟨_,rfl⟩⟩
 unfold Ae
 rw[List.map_map,List.map_map]
 rfl
noncomputable def K0(t:Nat)(tl:List (Str×AV)):R:=⟨("t",.int t)::tl,Ay (Aj H2)⟩
theorem bW{V:Nat}{N:List Str}(hN:N.length<1000):∃ρ',B6 (compTurn (E V (n+3)) (A5 B9.sc (Aj H2)) (A9 H2 0).target (A9 H2 0).ifs (BF (E V (n+3)) (A5 B9.sc (Aj H2)) (Bn H2) [])) (N.map AV.str) [] (K0 t [])=some (Bi (N.map λs=>(s,t)),ρ')/\∃tl,ρ'=K0 t tl:=by
 refine Ak (Ez (r:=E V (n+3)) (sc:=A5 B9.sc (Aj H2)) (t:=(A9 H2 0).target) (elt:=Bn H2) (At:= λρ=>ρ=K0 t []∨∃v,ρ=K0 t [("name",v)]) (f:= λv=>.tup [v,.int t]) (its:=N.map AV.str) (ρ:=K0 t [])
  (by
   intro w hv ρ a
   obtain⟨s,hk,rfl⟩:=List.mem_map.mp hv
   exact⟨K0 t [("name",.str s)],by obtain rfl|⟨_,rfl⟩:=a<;>rfl,.inr ⟨_,rfl⟩,rfl⟩) (by rw[List.length_map];exact Ah 0x16c15f90530116a3e83301 Aa hN) (.inl rfl)) λρ' h1 h2=>?_
 refine⟨ρ',h1.trans ?_,by obtain rfl|⟨_,rfl⟩:=h2<;>exact⟨_,rfl⟩⟩
 unfold Bi
 rw[List.map_map,List.map_map]
 rfl
theorem nX:∀{t:Nat},t<6->On [.int ((t:Int)+2)]=some (Ae (List.range (t+2))):=by
 intro zk zh
 refine Jg (k:=zk) ?_ ?_ ?_ ?_ ?_ ?_ zh<;>(exact rfl)
noncomputable def dF(κ A:List Nat)(c:AV)(N:List Str)(g:List (Str×Nat))(tl:List (Str×AV)):R:=
 ⟨("ahead",.list (Ae A))::("come",c)::("kinds",.list (Ae κ))::("names",.list (N.map .str))::("first",.list (Ae (Dw κ)))::("second",.list (Ae (E3 κ)))::("due",.list (Bi g))::tl,λ_=>false⟩
noncomputable def Oo(tl:List (Str×AV)):Prop:=tl=[]∨∃a b c,tl=([("t",a),("ways",b),("gone",c)]:List (Str×AV))
noncomputable def Fq(κ A:List Nat)(N:List Str)(g:List (Str×Nat))(t:Nat):List (Str×Nat):=g++((N.take (Hz κ A (t+1))).drop g.length).map λs=>(s,t)
theorem Kr(g:List (Str×Nat)):(Bi g).length=g.length:=List.length_map _
theorem iZ{N:List Str}(h:N.length<1000)(u v:Nat):D5 (.list (N.map .str)) (some (u:Int)) (some (v:Int)) none=some (.list (((N.take v).drop u).map .str)):=
 Hk (by rw[List.length_map];exact Ah 0x14c186a0530116a3e83301 Aa h) (by rw[Uw,List.map_drop,List.map_take])
theorem Y2{V:Nat}{c:AV}{N:List Str}(Ce:κ.length=6)(hA:A.length=7)(hN:N.length<1000)(hg:g.length<1000)(ht:t<6)(z:Oo tl):
 ∃AJ,Oo AJ/\forTurn (E V (n+10)) B9.sc (BD Fk) (AB Fk) (.int t) (dF κ A c N g tl)=some (.next,dF κ A c N (Fq κ A N g t) AJ):=by
 obtain⟨ρ1,e1⟩:=kY (V:=V) (n:=n+4) ht
 refine Qy (Z8 (V:=V) (n:=n+1) Ce hA ht) λAD e2 C4 B2=>?_;obtain rfl:=B2
 refine Qy (bW (V:=V) (n:=n+4) (t:=t) (N:=(N.take (Hz κ A (t+1))).drop g.length) (by simp;exact Ap 0x16c3e8332116a3e8331114a012114a1101 Aa hN (Nat.sub_le _ _) (Nat.min_le_right _ _))) λHf e3 EQ B2=>?_;obtain rfl:=B2
 obtain⟨BX,z1,Cp⟩:∃BX,(BX=([("t",.int t)]:List (Str×AV))∨∃b c,BX=([("t",.int t),("ways",b),("gone",c)]:List (Str×AV)))/\BS B9.sc (BD Fk) (.int t) (dF κ A c N g tl)=some (dF κ A c N g BX):=by
  obtain rfl|⟨_,_,_,rfl⟩:=z
  ·exact⟨_,.inl rfl,rfl⟩
  ·exact⟨_,.inr ⟨_,_,rfl⟩,rfl⟩
 obtain⟨C4,z2,s0⟩:∃C4,(C4=([("t",.int t),("ways",.list ((Ek (t+1)).map HP))]:List (Str×AV))∨∃c,C4=([("t",.int t),("ways",.list ((Ek (t+1)).map HP)),("gone",c)]:List (Str×AV)))/\AQ (E V (n+9)) tp V B9.sc (at' (AB Fk) 0) (dF κ A c N g BX)=some (.next,dF κ A c N g C4):=by
  have ir:=nX ht
  obtain rfl|⟨_,_,rfl⟩:=z1
  ·exact⟨_,.inl rfl,as_list (Cg rfl (Ab rfl (Ab ir rfl)) e1 rfl) rfl rfl rfl⟩
  ·exact⟨_,.inr ⟨_,rfl⟩,as_list (Cg rfl (Ab rfl (Ab ir rfl)) e1 rfl) rfl rfl rfl⟩
 have s1:AQ (E V (n+9)) tp V B9.sc (at' (AB Fk) 1) (dF κ A c N g C4)=some (.next,dF κ A c N g [("t",.int t),("ways",.list ((Ek (t+1)).map HP)),("gone",.int (Hz κ A (t+1):Nat))]):=by
  have ne:(Ek (t+1)).map (JO κ A (t+1))≠[]:= λh=>aM (t+1) (List.map_eq_nil_iff.mp h)
  obtain rfl|⟨_,rfl⟩:=z2
  ·exact BK (PQ ne rfl (Ed (Cg rfl (Cr rfl rfl rfl) e2 rfl)) rfl rfl) rfl rfl
  ·exact BK (PQ ne rfl (Ed (Cg rfl (Cr rfl rfl rfl) e2 rfl)) rfl rfl) rfl rfl
 have s2:AQ (E V (n+9)) tp V B9.sc (at' (AB Fk) 2) (dF κ A c N g [("t",.int t),("ways",.list ((Ek (t+1)).map HP)),("gone",.int (Hz κ A (t+1):Nat))])=some (.next,dF κ A c N (Fq κ A N g t) [("t",.int t),("ways",.list ((Ek (t+1)).map HP)),("gone",.int (Hz κ A (t+1):Nat))]):=by
  refine BK (Bt rfl (Ed (Cg rfl (Cr (Dm rfl rfl (Hu (Il (Dn rfl rfl (k:=g.length) (by exact congrArg some (Kr g)) (by show _<=100000;exact Ah 0x14c186a0530116a3e83301 Aa hg) rfl rfl)) rfl) (iZ hN _ _)) rfl rfl) e3 rfl)) (I0 ?_)) ?_ rfl
  ·rw[Kr,Kr,List.length_map,List.length_drop,List.length_take];show _<=100000;exact A7 0x14c186a0534213116a3e8333116a3e8331114a012114a1101 Aa hg hN (Nat.sub_le _ _) (Nat.min_le_right _ _)
  ·have e:Bi g++Bi (((N.take (Hz κ A (t+1))).drop g.length).map λs=>(s,t))=Bi (Fq κ A N g t):=by
    unfold Fq Bi
    rw[List.map_append]
   rw[e];rfl
 exact⟨_,.inr ⟨_,_,_,rfl⟩,turn Cp (Aq s0 (Aq s1 (A3 s2)))⟩
theorem T6{N:List Str}:(Fq κ A N g t).length<=max g.length N.length:=by
 unfold Fq
 rw[List.length_append,List.length_map,List.length_drop,List.length_take]
 exact HT (λA6 Af=>AW 0x14c214314114b014413114a211114a1101 Aa Af (Nat.le_max_right _ _) (Nat.min_le_right _ _)) (λA6 Af=>Ap 0x14c114210114b022114a1101 Aa Af (Nat.le_max_left _ _))
noncomputable def CQ(κ A:List Nat)(N:List Str):List (Str×Nat):=[0,1,2,3,4,5].foldl (λg t=>Fq κ A N g t) []
theorem YQ{V:Nat}(Ce:κ.length=6)(hA:A.length=7)(hN:cm.flatten.length<1000):
 ∃ρ',BL (E V (n+11)) tp "_law_due" [.list (Ae κ),Bw cm,.list (Ae A)] []=some (.tup [.list (Bi (CQ κ A cm.flatten)),.list ((cm.flatten.drop (CQ κ A cm.flatten).length).map .str)],ρ'):=by
 obtain⟨ρ1,e1⟩:=gA (V:=V) (n:=n+7) hN
 obtain⟨AD,e2⟩:=dW (V:=V) (n:=n+7) Ce
 obtain⟨Hf,e3⟩:=YT (V:=V) (n:=n+7) Ce
 have step:∀{t:Nat} {g:List (Str×Nat)} {tl:List (Str×AV)},t<6->g.length<1000->Oo tl->∃AJ,Oo AJ/\(Fq κ A cm.flatten g t).length<1000/\forTurn (E V (n+10)) B9.sc (BD Fk) (AB Fk) (.int t) (dF κ A (Bw cm) cm.flatten g tl)=some (.next,dF κ A (Bw cm) cm.flatten (Fq κ A cm.flatten g t) AJ):=by
  intro t g tl ht hg z
  refine Ak (Y2 (V:=V) (n:=n) (c:=Bw cm) Ce hA hN hg ht z) λAJ z' e=>?_
  have:=T6 (κ:=κ) (A:=A) (N:=cm.flatten) (g:=g) (t:=t)
  exact⟨AJ,z',by exact W5 (λA6 Af=>Ap 0x16c3e8332114a012116a3e8331114b1101 Aa this hN Af) (λA6 Af=>Ap 0x16c3e8332114a012116a3e8331114b1101 Aa this hg Af),e⟩
 refine Cf (step (t:=0) (g:=[]) (tl:=[]) (by exact AE 0x16c6202 Aa) (by decide) (.inl rfl)) λMx z0 l0 k0=>?_
 refine Cf (step (t:=1) (by exact AE 0x16c6212 Aa) l0 z0) λBX z1 l1 k1=>?_
 refine Cf (step (t:=2) (by exact AE 0x16c6222 Aa) l1 z1) λC4 z2 l2 k2=>?_
 refine Cf (step (t:=3) (by exact AE 0x16c6232 Aa) l2 z2) λEQ z3 l3 k3=>?_
 refine Cf (step (t:=4) (by exact AE 0x16c6242 Aa) l3 z3) λJu z4 l4 k4=>?_
 refine Cf (step (t:=5) (by exact AE 0x16c6252 Aa) l4 z4) λHB z5 l5 k5=>?_
 have run:BP (forTurn (E V (n+10)) B9.sc (BD Fk) (AB Fk)) [.int (0:Nat),.int (1:Nat),.int (2:Nat),.int (3:Nat),.int (4:Nat),.int (5:Nat)] (dF κ A (Bw cm) cm.flatten [] [])=some (.next,dF κ A (Bw cm) cm.flatten (CQ κ A cm.flatten) HB):=BH k0 (BH k1 (BH k2 (BH k3 (BH k4 (BH k5 rfl)))))
 have lD:(CQ κ A cm.flatten).length<1000:=l5
 clear k0 k1 k2 k3 k4 k5 step
 generalize CQ κ A cm.flatten=g at run lD ⊢
 have sl:D5 (.list (cm.flatten.map .str)) (some (g.length:Int)) none none=some (.list ((cm.flatten.drop g.length).map .str)):=Hk (by rw[List.length_map];exact Ah 0x14c186a0530116a3e83301 Aa hN) (by rw[Pj,List.map_drop])
 have s5:∃ρ',AQ (E V (n+10)) tp V B9.sc (at' B9.body 5) (dF κ A (Bw cm) cm.flatten g HB)=some (.ret (.tup [.list (Bi g),.list ((cm.flatten.drop g.length).map .str)]),ρ'):=by
  obtain rfl|⟨_,_,_,rfl⟩:=z5
  ·exact⟨_,CB (G9 (B7 rfl (Bp (Dm rfl rfl (Hu (Il (Dn rfl rfl (k:=g.length) (by exact congrArg some (Kr g)) (by show _<=100000;exact Ah 0x14c186a0530116a3e83301 Aa lD) rfl rfl)) rfl) sl) rfl) rfl) (by show 2<=100000;exact AE 0x14c186a05322 Aa))⟩
  ·exact⟨_,CB (G9 (B7 rfl (Bp (Dm rfl rfl (Hu (Il (Dn rfl rfl (k:=g.length) (by exact congrArg some (Kr g)) (by show _<=100000;exact Ah 0x14c186a0530116a3e83301 Aa lD) rfl rfl)) rfl) sl) rfl) rfl) (by show 2<=100000;exact AE 0x14c186a05322 Aa))⟩
 obtain⟨ρ',s5⟩:=s5
 have b0:AQ (E V (n+10)) tp V B9.sc (at' B9.body 0) ⟨[("ahead",.list (Ae A)),("come",Bw cm),("kinds",.list (Ae κ))],λ_=>false⟩=some (.next,⟨[("ahead",.list (Ae A)),("come",Bw cm),("kinds",.list (Ae κ)),("names",.list (cm.flatten.map .str))],λ_=>false⟩):=
  as_list (Cg rfl (Cr rfl rfl rfl) e1 rfl) rfl rfl rfl
 have b1:AQ (E V (n+10)) tp V B9.sc (at' B9.body 1) ⟨[("ahead",.list (Ae A)),("come",Bw cm),("kinds",.list (Ae κ)),("names",.list (cm.flatten.map .str))],λ_=>false⟩=some (.next,⟨[("ahead",.list (Ae A)),("come",Bw cm),("kinds",.list (Ae κ)),("names",.list (cm.flatten.map .str)),("first",.list (Ae (Dw κ)))],λ_=>false⟩):=
  as_list (Cg rfl (Cr rfl rfl rfl) e2 rfl) rfl rfl rfl
 have b2:AQ (E V (n+10)) tp V B9.sc (at' B9.body 2) ⟨[("ahead",.list (Ae A)),("come",Bw cm),("kinds",.list (Ae κ)),("names",.list (cm.flatten.map .str)),("first",.list (Ae (Dw κ)))],λ_=>false⟩=some (.next,⟨[("ahead",.list (Ae A)),("come",Bw cm),("kinds",.list (Ae κ)),("names",.list (cm.flatten.map .str)),("first",.list (Ae (Dw κ))),("second",.list (Ae (E3 κ)))],λ_=>false⟩):=
  as_list (Cg rfl (Cr rfl rfl rfl) e3 rfl) rfl rfl rfl
 exact⟨ρ',CV aR rfl (Cz (Aq b0 (Aq b1 (Aq b2 (Aq rfl (Aq (E0 rfl rfl rfl run) (A3 s5)))))) rfl)⟩
noncomputable abbrev HO:=Bool×List (List Nat)
noncomputable def HK:Nat->List HO
 |0=>[]
 |1=>[(true,[[92,34],[41]])]
 |2=>[(false,[[92,41]])]
 |3=>[(false,[[92,92]]),(true,[[40]])]
 |4=>[(false,[[92,92]])]
 |_=>[(false,[[92,34]])]
noncomputable def HH:Nat->List HO
 |0=>[(false,[[120]])]
 |1=>[(false,[[40]])]
 |2=>[(false,[[41]])]
 |_=>[(false,[[40],[41]])]
noncomputable def BJ(p:Nat×Nat):List HO:=HK p.1++HH p.2
noncomputable def Jh(p:Nat×Nat):Str:=S (raw (BJ p))
noncomputable def Bu(ws:List (Nat×Nat)):List HO:=ws.flatMap BJ
theorem Tk{b:List HO}(h:∀x∈b,∀u∈x.2,(u.length=1/\u≠[92]∨u.length=2/\u.head?=some 92)/\u≠[34]):Et b:=by
 intro x hx u hu
 obtain⟨h1,h2⟩:=h x hx u hu
 refine⟨?_,h2⟩
 match u,h1 with
 |[c],.inl ⟨_,h⟩=>exact .inl ⟨c,rfl,λe=>h (by rw[e])⟩
 |[c,d],.inr ⟨_,h⟩=>exact .inr ⟨d,by(revert h;refine As λc0=>?_;subst c0);rfl⟩
theorem IR{a b:List HO}(h1:Et a)(h2:Et b):Et (a++b):= λx hx=>(List.mem_append.mp hx).elim (h1 x) (h2 x)
theorem ZH(a:Nat):Et (HK a):=by
 match a with
 |0|1|2|3|4|_+5=>exact Tk (by simp[HK])
theorem gN(a:Nat):Et (HH a):=by
 match a with
 |0|1|2|_+3=>exact Tk (by simp[HH])
theorem PC(ws:List (Nat×Nat)):Et (Bu ws):=by
 intro x hx
 refine Ak (List.mem_flatMap.mp hx) λp _ h=>?_
 exact IR (ZH _) (gN _) x h
theorem JM{c:Nat}(h:c≠92)(h':c≠34)(m:Nat):Et [(false,List.replicate m [c])]:=by
 intro x hx u hu
 obtain rfl:=List.mem_singleton.mp hx
 obtain⟨_,rfl⟩:=List.mem_replicate.mp hu
 exact⟨.inl ⟨c,rfl,h⟩,λe=>h' (List.cons.inj e).1⟩
theorem GH(a b:List HO):raw (a++b)=raw a++raw b:=by
 unfold raw
 rw[List.flatMap_append,List.flatten_append]
theorem EL(a b:List HO):plain (a++b)=plain a++plain b:=List.flatMap_append
theorem Kf(c m:Nat):raw [(false,List.replicate m [c])]=List.replicate m c:=by
 show(List.replicate m [c]++[]).flatten=_
 rw[List.append_nil]
 induction m with
 |zero=>rfl
 |succ m ih=>rw[List.replicate_succ,List.replicate_succ,List.flatten_cons,ih];rfl
theorem GN(us:List (List Nat)):plain [(false,us)]=us:=List.append_nil us
theorem QX(p:Nat×Nat):(raw (BJ p)).length<=8/\(BJ p).length<=3:=by
 obtain⟨a,k⟩:=p
 match a with
 |0|1|2|3|4|_+5=>
  match k with
  |0|1|2|_+3=>exact⟨by simp[BJ,HK,HH,raw,Ey],by simp[BJ,HK,HH]⟩
theorem Ls:∀ws:List (Nat×Nat),(raw (Bu ws)).length<=8*ws.length/\(Bu ws).length<=3*ws.length:=by
 intro Al
 induction Al with
 |nil=>
  exact⟨Nat.le_refl _,Nat.le_refl _⟩
 |cons p r zih=>
  obtain⟨h1,h2⟩:=zih
  obtain⟨h3,h4⟩:=QX p
  have e:Bu (p::r)=BJ p++Bu r:=rfl
  rw[e,GH,List.length_append,List.length_append,List.length_cons]
  exact⟨Ap 0x14c815412114012114a822114a8151101 Aa h3 h1,Ap 0x14c315412114012114a322114a3151101 Aa h4 h2⟩
theorem ZG:∀ws:List (Nat×Nat),(ws.map λp=>raw (BJ p)).flatten=raw (Bu ws):=by
 intro Al
 induction Al with
 |nil=>
  exact rfl
 |cons p r zih=>
  rw[List.map_cons,List.flatten_cons,show Bu (p::r)=BJ p++Bu r from rfl,GH,zih]
theorem Ve(ws:List (Nat×Nat)):Txt.join (⟨#[]⟩:Str) (ws.map Jh:List Str)=S (raw (Bu ws)):=by
 have:=Qj (ws.map λp=>raw (BJ p))
 rw[List.map_map,ZG] at this
 exact this
theorem jB(c:Nat)(m:Int):Txt.mul (S [c]) m=S (List.replicate m.toNat c):=by
 have h:=mul_one_list c m
 show Txt.mul ⟨#[c]⟩ m=_
 generalize Txt.mul ⟨#[c]⟩ m=x at h ⊢
 rw[<-h]
 cases x
 simp[S]
theorem JK{s:Str}{c:Nat}{m:Int}(hs:s=S [c])(h1: -1000<=m)(h2:m<=1000):CG .Mult (.str s) (.int m)=some (.str (S (List.replicate m.toNat c))):=by
 subst hs
 rw[<-jB]
 have hg:=AF (decide_eq_true (p:= -1000<=m/\m<=1000/\(S [c]).length=1) ⟨h1,h2,rfl⟩)
 show(some m>>= λy=>AG (decide (-1000<=y/\y<=1000/\(S [c]).length=1))>>= λ_=>some (AV.str (Txt.mul (S [c]) y)))=_
 exact Ab rfl (Ab hg rfl)
theorem F4{a b:List Nat}(h:a.length+b.length<=100000):CG .Add (.str (S a)) (.str (S b))=some (.str (S (a++b))):=by
 rw[<-KC]
 exact add_str (by rw[CA,CA];exact h)
theorem EH:∀(us vs:List (List Nat)) (o:Int),Bz o (us++vs)=(Bz o us).bind λr=>Bz r vs:=by
 intro Al
 induction Al with
 |nil=>
  intro _ _
  exact rfl
 |cons u us ih=>
  intro vs o
  show(if u=[40] then Bz (o+1) (us++vs) else if u=[41] then(if o - 1<0 then none else Bz (o - 1) (us++vs)) else Bz o (us++vs))=(if u=[40] then Bz (o+1) us else if u=[41] then(if o - 1<0 then none else Bz (o - 1) us) else Bz o us).bind _
  rw[ih vs,ih vs,ih vs]
  by_cases h1:u=[40]
  ·rw[if_pos h1,if_pos h1]
  ·rw[if_neg h1,if_neg h1]
   by_cases h2:u=[41]
   ·rw[if_pos h2,if_pos h2]
    by_cases h3:o - 1<0
    ·rw[if_pos h3,if_pos h3];rfl
    ·rw[if_neg h3,if_neg h3]
   ·rw[if_neg h2,if_neg h2]
theorem WL(j:Nat):∀{us:List (List Nat)} {o r:Int},Bz o us=some r->Bz (o+j) us=some (r+j):=by
 intro Al
 induction Al with
 |nil=>
  intro o r h
  (revert h;refine As λc0=>?_;subst c0);rfl
 |cons u us ih=>
  intro o r h
  have h:(if u=[40] then Bz (o+1) us else if u=[41] then(if o - 1<0 then none else Bz (o - 1) us) else Bz o us)=some r:=h
  show(if u=[40] then Bz (o+j+1) us else if u=[41] then(if o+j - 1<0 then none else Bz (o+j - 1) us) else Bz (o+j) us)=some (r+j)
  by_cases h1:u=[40]
  ·rw[if_pos h1] at h ⊢
   rw[show o+(j:Int)+1=o+1+j by exact Int.le_antisymm (BO 0x10c470141201412470101 Aa) (BO 0x10c412470101470141201 Aa)]
   exact ih h
  ·rw[if_neg h1] at h ⊢
   by_cases h2:u=[41]
   ·rw[if_pos h2] at h ⊢
    by_cases h3:o - 1<0
    ·rw[if_pos h3] at h;exact Az h
    ·rw[if_neg h3] at h
     rw[if_neg (by exact BO 0x13c0281247010113a0281201 Aa h3),show o+(j:Int) - 1=o - 1+j by exact Int.le_antisymm (BO 0x10c470181201812470101 Aa) (BO 0x10c812470101470181201 Aa)]
     exact ih h
   ·rw[if_neg h2] at h ⊢
    exact ih h
theorem Lg(m:Nat)(us:List (List Nat)):∀o:Int,Bz o (List.replicate m [40]++us)=Bz (o+m) us:=by
 induction m with
 |zero=>intro o;simp
 |succ m ih=>
  intro o
  rw[List.replicate_succ,List.cons_append]
  show(if([40]:List Nat)=[40] then Bz (o+1) _ else _)=_
  rw[if_pos rfl,ih]
  congr 1;exact Int.le_antisymm (BO 0x10c474120101470141201 Aa) (BO 0x10c470141201474120101 Aa)
theorem LD(j:Nat):∀r:Nat,j<=r->Bz r (List.replicate j [41])=some ((r - j:Nat):Int):=by
 induction j with
 |zero=>intro r _;rfl
 |succ j ih=>
  intro r h
  rw[List.replicate_succ]
  show(if([41]:List Nat)=[40] then _ else if([41]:List Nat)=[41] then(if(r:Int) - 1<0 then none else Bz ((r:Int) - 1) _) else _)=_
  rw[if_neg (by decide),if_pos rfl,if_neg (by exact Ac 0x13c0281271114a1141201 Aa h),show(r:Int) - 1=((r - 1:Nat):Int) by exact Int.le_antisymm (Ac 0x10c71181270114a4121101 Aa Bl) (Ac 0x10c81271170114b1141201 Aa (Nat.sub_add_cancel (Ac 0x14c111214a1141201 Aa h))),ih (r - 1) (by exact Ap 0x14c112114a014122114a4121101 Aa h Bl)]
  congr 2;exact Nat.le_antisymm (AW 0x14c412114a441231411114b014312114b1141201 Aa Bl (Nat.sub_add_cancel (Ap 0x14c112114a014122114a4121101 Aa h Bl)) (Nat.sub_add_cancel (Ac 0x14c111214a1141201 Aa h))) (AW 0x14c410114a411413114a412312114b2144121101 Aa Bl Bl (Nat.sub_add_cancel (Ac 0x14c114120114a1141201 Aa h)))
noncomputable def PZ(k:Nat)(o:Int):Option Int:=match k with
 |0=>some o
 |1=>some (o+1)
 |2=>if o - 1<0 then none else some (o - 1)
 |_=>some o
theorem Ke(a k:Nat)(ho:0<=o):Bz o (plain (BJ (a,k)))=PZ k o:=by
 unfold BJ
 rw[EL,EH]
 have h1:Bz o (plain (HK a))=some o:=by
  match a with
  |0|1|2|3|4|_+5=>rfl
 rw[h1]
 show Bz o (plain (HH k))=_
 match k with
 |0=>rfl
 |1=>rfl
 |2=>rfl
 |_+3=>
  show(if o+1 - 1<0 then none else some (o+1 - 1))=some o
  rw[if_neg (by exact EX 0x13c028124120110a0102 Aa ho),show o+1 - 1=o by exact Int.le_antisymm (EX 0x10c0181241201 Aa) (EX 0x10c8124120101 Aa)]
section
variable {p q:Pos}
theorem UV(h1:Cs sc a ρ=some (x,xs))(h:xs.length=k)(hk:k<=100000)(hg:BV sc "len"=true):(A1 top W (n+1)).e sc (.Call (.Name "len" q) [a] [] p) ρ=some (.int k,ρ):=by
 subst h
 show Dd (A1 top W n) top sc (.Name "len" q) [a] [] p ρ=_
 refine Ab (AF rfl) ?_
 show(if BV sc "len"=true then GD (A1 top W n) top sc "len" [a] [] ρ else _)=_
 rw[if_pos hg]
 show Jc (A1 top W n) sc "len" a ρ=_
 show(match Cs sc a ρ with|some (_,xs)=>_|none=>_)=_
 rw[h1]
 exact Ab (AF (decide_eq_true ⟨rfl,hk⟩)) rfl
theorem eR{f:PySem.Expr}{ks:List Keyword}(h:(A1 top W n).e sc (.Call f as ks p) ρ=some (.bool b,ρ1)):(A1 top W (n+1)).t sc (.Call f as ks p) ρ=some (b,ρ1):=Ab h rfl
end
noncomputable def ED(ws:List (Nat×Nat)):List AV:=ws.map λp=>.str (Jh p)
theorem V3:∀ws:List (Nat×Nat),HM (ED ws)=some (ws.map Jh):=by
 intro Al
 induction Al with
 |nil=>
  exact rfl
 |cons p r zih=>
  exact Ab (x:=Jh p) rfl (Ab (zih) rfl)
theorem TC:∀ws:List (Nat×Nat),((ws.map Jh).map Str.length).sum=(raw (Bu ws)).length:=by
 intro Al
 induction Al with
 |nil=>
  exact rfl
 |cons p r zih=>
  rw[List.map_cons,List.map_cons,List.sum_cons,zih,show Bu (p::r)=BJ p++Bu r from rfl,GH,List.length_append,Jh,CA]
noncomputable def Iq:BG:=defAt tp 11
theorem Z4:B4 tp "_law_lone"=some Iq:=rfl
noncomputable def Ja:Stmt:=at' Iq.body 2
noncomputable def Bb(ws:List (Nat×Nat)):List Nat:=ws.map (·.2)
noncomputable def oF(ws:List (Nat×Nat))(lo op:List Nat)(tl:List (Str×AV)):R:=
 ⟨("kinds",.list (Ae (Bb ws)))::("words",.list (ED ws))::("lone",.ol (Ae lo))::("opened",.ol (Ae op))::tl,λ_=>false⟩
noncomputable def Ej(s:List Nat×List Nat)(k κ:Nat):List Nat×List Nat:=
 if κ=1 then(s.1,s.2++[k]) else if κ=2 then(if s.2=[] then(s.1++[k],s.2) else(s.1,s.2.dropLast)) else s
noncomputable def LoneAt(ws:List (Nat×Nat))(s:List Nat×List Nat):Prop:=Bz s.1.length (plain (Bu ws))=some ((s.2.length:Nat):Int)/\s.1.length+s.2.length<=ws.length
theorem QZ(ws:List (Nat×Nat))(p:Nat×Nat):Bu (ws++[p])=Bu ws++BJ p:=by
 unfold Bu
 rw[List.flatMap_append];simp
theorem LoneAt.step(a κ k:Nat)(h:LoneAt ws s):LoneAt (ws++[(a,κ)]) (Ej s k κ):=by
 obtain⟨h1,h2⟩:=h
 obtain⟨lo,op⟩:=s
 unfold LoneAt Ej
 dsimp only at h1 h2 ⊢
 rw[QZ,EL,List.length_append]
 by_cases c1:κ=1
 ·subst c1
  rw[if_pos rfl,EH,h1]
  refine⟨?_,by simp;exact Ap 0x14c412214412110114a2141101 Aa h2⟩
  show Bz (op.length:Int) (plain (BJ (a,1)))=_
  rw[Ke a 1 (by exact Ah 0x10c70102 Aa)]
  simp[PZ]
 ·rw[if_neg c1]
  by_cases c2:κ=2
  ·subst c2
   rw[if_pos rfl]
   by_cases c3:op=[]
   ·subst c3
    rw[if_pos rfl]
    refine⟨?_,by simp at h2 ⊢;exact Ac 0x14c110114a1101 Aa h2⟩
    dsimp only
    rw[List.length_append,EH]
    have:=WL 1 h1
    rw[show((lo.length+[k].length:Nat):Int)=(lo.length:Int)+(1:Nat) by simp,this]
    show Bz (0+1) (plain (BJ (a,2)))=_
    rw[Ke a 2 (by exact AE 0x10c4120202 Aa)]
    rfl
   ·rw[if_neg c3,EH,h1]
    have hp:0<op.length:=List.length_pos_iff.mpr c3
    refine⟨?_,by simp;exact A7 0x14c412314012114a314112114b1141201 Aa h2 (Nat.sub_add_cancel (Ah 0x14c011216a0102 Aa hp))⟩
    show Bz (op.length:Int) (plain (BJ (a,2)))=_
    rw[Ke a 2 (by exact Ah 0x10c70102 Aa)]
    show(if(op.length:Int) - 1<0 then none else some ((op.length:Int) - 1))=some ((op.dropLast.length:Nat):Int)
    rw[if_neg (by exact Ah 0x13c0281270116a0102 Aa hp),List.length_dropLast]
    congr 1;exact Int.le_antisymm (Ac 0x10c71181270114a4121101 Aa Bl) (Ac 0x10c81271170114b1141201 Aa (Nat.sub_add_cancel (Ah 0x14c011216a0102 Aa hp)))
  ·rw[if_neg c2,EH,h1]
   refine⟨?_,by simp;exact Ap 0x14c412214110114a2141101 Aa h2⟩
   show Bz (op.length:Int) (plain (BJ (a,κ)))=_
   rw[Ke a κ (by exact Ah 0x10c70102 Aa)]
   match κ,c1,c2 with
   |0,_,_=>rfl
   |κ+3,_,_=>rfl
theorem nA{lo:List Nat}(a:Nat)(h:LoneAt ws (lo,op)):EJ (plain ([(false,List.replicate lo.length [40])]++Bu (ws++[(a,2)])++[(false,List.replicate ((op.length:Int) - 1).toNat [41])]))= !op.isEmpty:=by
 obtain⟨h1,h2⟩:=h
 dsimp only at h1 h2
 unfold EJ
 rw[EL,EL,GN,GN,QZ,EL,EH,Lg,Int.zero_add,EH,h1]
 rw[Option.bind_some,Ke a 2 (by exact Ah 0x10c70102 Aa),show PZ 2 (op.length:Int)=if(op.length:Int) - 1<0 then none else some ((op.length:Int) - 1) from rfl]
 cases op with
 |nil=>rfl
 |cons b r=>
  rw[if_neg (by simp only[List.length_cons];exact Ah 0x13c02812741201 Aa),show(((b::r).length:Nat):Int) - 1=(r.length:Nat) by simp,Option.bind_some,Int.toNat_natCast,LD _ _ (Nat.le_refl _),Nat.sub_self]
  rfl
noncomputable def TP(tl:List (Str×AV)):Prop:=tl=[]∨∃a,tl=([("k",a)]:List (Str×AV))
theorem lX(ws:List (Nat×Nat))(k:Nat):(ED ws).take k=ED (ws.take k):=by
 unfold ED;rw[List.map_take]
noncomputable def GJ:Stmt->PySem.Expr
 |.If t _ _ _=>t
 |_=>default
noncomputable def Td:Stmt:=at' (NR (at' (AB Ja) 0)) 0
noncomputable def nH:Stmt:=at' (MQ Td) 0
theorem Zl{V:Nat}{lo:List Nat}(hw:ws.length=6)(hk:k<6)(Fz:lo.length<=6)(O1:op.length<=6):
 (E V (n+15)).t Iq.sc (GJ nH) (oF ws lo op [("k",.int k)])=some (EJ (plain ([(false,List.replicate lo.length [40])]++Bu (ws.take (k+1))++[(false,List.replicate ((op.length:Int) - 1).toNat [41])])),oF ws lo op [("k",.int k)]):=by
 have hg:Et ([(false,List.replicate lo.length [40])]++Bu (ws.take (k+1))++[(false,List.replicate ((op.length:Int) - 1).toNat [41])]):=IR (IR (JM (by decide) (by decide) _) (PC _)) (JM (by decide) (by decide) _)
 have hl:=Ls (ws.take (k+1))
 have ht:(ws.take (k+1)).length<=6:=by rw[List.length_take];exact Ac 0x14c620116a621114a4121101 Aa hk (Nat.min_le_left _ _)
 have hr:raw ([(false,List.replicate lo.length [40])]++Bu (ws.take (k+1))++[(false,List.replicate ((op.length:Int) - 1).toNat [41])])=List.replicate lo.length 40++raw (Bu (ws.take (k+1)))++List.replicate ((op.length:Int) - 1).toNat 41:=by
  rw[GH,GH,Kf,Kf]
 obtain⟨ρ',e⟩:=Qf (W:=V) (n:=n) hg (by rw[hr];simp only[List.length_append,List.length_replicate];show _<=100000;exact HR (λA6 Af=>AW 0x14c186a0534014312184a624114a815413114a621114a622110b812711701 Aa ht hl.1 O1 Fz Af) (λA6 Af=>A7 0x14c186a0534014211184a623114a815312114a621114b0201 Aa ht hl.1 Fz Af)) (by simp only[List.length_append,List.length_singleton];show _<100000;exact Ac 0x16c186a0534124124011234a621114a3151101 Aa ht hl.2)
 rw[hr] at e
 have a1:CG .Add (.str (S (List.replicate ((lo.length:Nat):Int).toNat 40))) (.str (Txt.join (⟨#[]⟩:Str) ((ws.take (k+1)).map Jh:List Str)))=some (.str (S (List.replicate lo.length 40++raw (Bu (ws.take (k+1)))))):=by
  rw[Ve]
  exact F4 (by simp only[List.length_replicate,Int.toNat_natCast];exact Ap 0x14c186a0534110184a622114a815211114a6201 Aa ht hl.1 Fz)
 have a2:CG .Add (.str (S (List.replicate lo.length 40++raw (Bu (ws.take (k+1)))))) (.str (S (List.replicate ((op.length:Int) - 1).toNat 41)))=some (.str (S (List.replicate lo.length 40++raw (Bu (ws.take (k+1)))++List.replicate ((op.length:Int) - 1).toNat 41))):=
  F4 (by simp only[List.length_append,List.length_replicate];exact HR (λA6 Af=>AW 0x14c186a0534014312184a624114a815413114a621114a622110b812711701 Aa ht hl.1 O1 Fz Af) (λA6 Af=>A7 0x14c186a0534014211184a623114a815312114a621114b0201 Aa ht hl.1 Fz Af))
 exact eR (Dp (Bp (Bt (Bt (Bt rfl (UV rfl (C5 lo) (by exact Ah 0x14c186a0530114a6201 Aa Fz) rfl) (JK MJ (by exact Ah 0x10c70193e833 Aa) (by exact Ah 0x10c3e83370114a6201 Aa Fz))) (Lc rfl (Dm rfl rfl (Hu rfl rfl) (Hk (by unfold ED;rw[List.length_map];exact Ah 0x14c186a0530114b6201 Aa hw) ((Rn _ (k+1)).trans (lX _ _)))) (V3 _) (by rw[TC];show _<=100000;exact Ac 0x14c186a0530184a621114a8151101 Aa ht hl.1) rfl rfl) a1) (Bt rfl (Bt (UV rfl (C5 op) (by exact Ah 0x14c186a0530114a6201 Aa O1) rfl) rfl rfl) (JK Nr (by exact Ah 0x10c81270193e833 Aa) (by exact Ah 0x10c3e83381270114a6201 Aa O1))) a2) rfl) rfl e rfl rfl rfl rfl rfl rfl)
theorem take_snoc{p:Nat×Nat}(h:ws[k]? =some p):ws.take (k+1)=ws.take k++[p]:=by
 rw[List.take_add_one,h];rfl
theorem Ky{V:Nat}{p:Nat×Nat}(hw:ws.length=6)(hk:k<6)(hp:ws[k]? =some p)(a:LoneAt (ws.take k) s)(z:TP tl):
 forTurn (E V (n+18)) Iq.sc (BD Ja) (AB Ja) (.int k) (oF ws s.1 s.2 tl)=some (.next,oF ws (Ej s k p.2).1 (Ej s k p.2).2 [("k",.int k)])/\LoneAt (ws.take (k+1)) (Ej s k p.2):=by
 obtain⟨q,κ⟩:=p
 rw[take_snoc hp]
 refine⟨?_,a.step q κ k⟩
 have hl:=a.2
 rw[List.length_take] at hl
 obtain⟨lo,op⟩:=s
 dsimp only at hl ⊢
 have Cp:BS Iq.sc (BD Ja) (.int k) (oF ws lo op tl)=some (oF ws lo op [("k",.int k)]):=by
  obtain rfl|⟨_,rfl⟩:=z<;>rfl
 have Ce:(Bb ws)[k]? =some κ:=by
  unfold Bb
  rw[List.getElem?_map,hp];rfl
 have X5:(Bb ws).length<100:=by unfold Bb;rw[List.length_map];exact Ah 0x16c64230114b6201 Aa hw
 have t1:(E V (n+17)).t Iq.sc (GJ (at' (AB Ja) 0)) (oF ws lo op [("k",.int k)])=some ((κ:Int)==1,oF ws lo op [("k",.int k)]):=B1 rfl (BM rfl rfl rfl (HJ Ce X5) rfl rfl) rfl rfl rfl
 have t2:(E V (n+16)).t Iq.sc (GJ Td) (oF ws lo op [("k",.int k)])=some ((κ:Int)==2,oF ws lo op [("k",.int k)]):=B1 rfl (BM rfl rfl rfl (HJ Ce X5) rfl rfl) rfl rfl rfl
 unfold Ej
 by_cases c1:κ=1
 ·subst c1
  rw[if_pos rfl]
  refine turn Cp (A3 (B3 t1 (A3 (DM (Bp rfl rfl) rfl rfl (FF (by rw[C5];show _<100000;exact A7 0x16c186a0533114a014312116a621114a1101 Aa hl hk (Nat.min_le_left _ _))) rfl ?_))))
  unfold oF Ae
  rw[List.map_append];rfl
 ·rw[if_neg c1]
  have n1:((κ:Int)==1)=false:=beq_false_of_ne λe=>c1 (by exact Nat.le_antisymm (Ah 0x14c120110b12701 Aa e) (Ah 0x14c011211b12701 Aa e))
  by_cases c2:κ=2
  ·subst c2
   rw[if_pos rfl]
   have t3:=Zl (V:=V) (n:=n) hw hk (lo:=lo) (op:=op) (by exact A7 0x14c622114a014312116a621114a1101 Aa hl hk (Nat.min_le_left _ _)) (by exact A7 0x14c623114a014312116a621114a1101 Aa hl hk (Nat.min_le_left _ _))
   rw[take_snoc hp,nA q a] at t3
   cases op with
   |nil=>
    rw[if_pos rfl]
    refine turn Cp (A3 (AZ (Br n1 t1) (A3 (B3 t2 (A3 (AZ t3 (A3 (DM (Bp rfl rfl) rfl rfl (FF (by rw[C5];show _<100000;exact A7 0x16c186a0532114a014312116a621114a1101 Aa hl hk (Nat.min_le_left _ _))) rfl ?_))))))))
    unfold oF Ae
    rw[List.map_append];rfl
   |cons b r=>
    rw[if_neg (by simp)]
    have RS:Gd "pop" (Ae (b::r)) []=some (.int ((b::r).getLast (by simp):Nat),Ae ((b::r).dropLast)):=by
     refine Ab (AF (decide_eq_true (by rw[C5];show _<100000;exact A7 0x16c186a0533114a014312116a621114a1101 Aa hl hk (Nat.min_le_left _ _)))) ?_
     have l1:(Ae (b::r)).length - 1=(b::r).length - 1:=by rw[C5]
     show((Ae (b::r))[(Ae (b::r)).length - 1]? >>= λv=>some (v,(Ae (b::r)).eraseIdx ((Ae (b::r)).length - 1)))=_
     rw[l1,Q0]
     refine Ab (x:=.int ((b::r).getLast (by simp):Nat)) ?_ ?_
     ·unfold Ae
      rw[List.getElem?_map,<-List.getLast?_eq_getElem?,List.getLast?_eq_some_getLast (by simp)];rfl
     ·rw[List.eraseIdx_length_sub_one]
    exact turn Cp (A3 (AZ (Br n1 t1) (A3 (B3 t2 (A3 (B3 t3 (A3 (DM rfl rfl rfl RS rfl rfl))))))))
  ·rw[if_neg c2]
   have n2:((κ:Int)==2)=false:=beq_false_of_ne λe=>c2 (by exact Nat.le_antisymm (Ah 0x14c220110b22701 Aa e) (Ah 0x14c012211b22701 Aa e))
   exact turn Cp (A3 (AZ (Br n1 t1) (A3 (AZ (Br n2 t2) rfl))))
noncomputable def Bh(κs:List Nat):List Nat×List Nat:=([0,1,2,3,4,5]:List Nat).foldl (λs k=>Ej s k (κs.getD k 0)) ([],[])
theorem nQ{V:Nat}{w0 w1 w2 w3 w4 w5:Nat×Nat}:
 (∃ρ',BL (E V (n+19)) tp "_law_lone" [.list (ED [w0,w1,w2,w3,w4,w5]),.list (Ae (Bb [w0,w1,w2,w3,w4,w5]))] []=some (.tup [.list (Ae (Bh (Bb [w0,w1,w2,w3,w4,w5])).1),.list (Ae (Bh (Bb [w0,w1,w2,w3,w4,w5])).2)],ρ'))/\
 LoneAt [w0,w1,w2,w3,w4,w5] (Bh (Bb [w0,w1,w2,w3,w4,w5])):=by
 have z:∀{k:Nat},TP ([("k",.int k)]:List (Str×AV)):= λ{k}=>.inr ⟨_,rfl⟩
 have a0:LoneAt [] ([],[]):=⟨rfl,Nat.le_refl _⟩
 obtain⟨e0,a1⟩:=Ky (V:=V) (n:=n) (ws:=[w0,w1,w2,w3,w4,w5]) (s:=([],[])) (k:=0) (tl:=[]) rfl (by exact AE 0x16c6202 Aa) rfl a0 (.inl rfl)
 obtain⟨e1,a2⟩:=Ky (V:=V) (n:=n) (ws:=[w0,w1,w2,w3,w4,w5]) (k:=1) rfl (by exact AE 0x16c6212 Aa) rfl a1 z
 obtain⟨e2,a3⟩:=Ky (V:=V) (n:=n) (ws:=[w0,w1,w2,w3,w4,w5]) (k:=2) rfl (by exact AE 0x16c6222 Aa) rfl a2 z
 obtain⟨e3,a4⟩:=Ky (V:=V) (n:=n) (ws:=[w0,w1,w2,w3,w4,w5]) (k:=3) rfl (by exact AE 0x16c6232 Aa) rfl a3 z
 obtain⟨e4,a5⟩:=Ky (V:=V) (n:=n) (ws:=[w0,w1,w2,w3,w4,w5]) (k:=4) rfl (by exact AE 0x16c6242 Aa) rfl a4 z
 obtain⟨e5,a6⟩:=Ky (V:=V) (n:=n) (ws:=[w0,w1,w2,w3,w4,w5]) (k:=5) rfl (by exact AE 0x16c6252 Aa) rfl a5 z
 refine⟨?_,a6⟩
 have run:BP (forTurn (E V (n+18)) Iq.sc (BD Ja) (AB Ja)) [.int (0:Nat),.int (1:Nat),.int (2:Nat),.int (3:Nat),.int (4:Nat),.int (5:Nat)] (oF [w0,w1,w2,w3,w4,w5] [] [] [])=some (.next,oF [w0,w1,w2,w3,w4,w5] (Bh (Bb [w0,w1,w2,w3,w4,w5])).1 (Bh (Bb [w0,w1,w2,w3,w4,w5])).2 [("k",.int (5:Nat))]):=BH e0 (BH e1 (BH e2 (BH e3 (BH e4 (BH e5 rfl)))))
 exact⟨_,CV Z4 rfl (Cz (Aq rfl (Aq rfl (Aq (E0 rfl rfl rfl run) (A3 (CB rfl))))) rfl)⟩
noncomputable def LoneMin(ws:List (Nat×Nat))(s:List Nat×List Nat):Prop:=(∀k:Nat,k<s.1.length->Bz k (plain (Bu ws))=none)/\(s.2.length+(Bb ws).count 2=s.1.length+(Bb ws).count 1)
theorem LoneMin.step(a κ k:Nat)(h:LoneAt ws s)(h':LoneMin ws s):LoneMin (ws++[(a,κ)]) (Ej s k κ):=by
 obtain⟨h1,h2⟩:=h
 obtain⟨h3,h4⟩:=h'
 obtain⟨lo,op⟩:=s
 dsimp only at h1 h2 h3 h4
 have kk:Bb (ws++[(a,κ)])=Bb ws++[κ]:=by unfold Bb;rw[List.map_append];rfl
 unfold LoneMin Ej
 rw[kk,QZ,EL,List.count_append,List.count_append]
 have old:∀k:Nat,k<lo.length->Bz k (plain (Bu ws)++plain (BJ (a,κ)))=none:= λk hk=>by rw[EH,h3 k hk];rfl
 by_cases c1:κ=1
 ·subst c1
  rw[if_pos rfl]
  refine⟨old,?_⟩
  simp
  exact Nat.le_antisymm (A7 0x14c441231214114120114b4312141101 Aa h4) (A7 0x14c411412014412312115b4312141101 Aa h4)
 ·rw[if_neg c1]
  by_cases c2:κ=2
  ·subst c2
   rw[if_pos rfl]
   by_cases c3:op=[]
   ·subst c3
    rw[if_pos rfl]
    refine⟨λj hj=>?_,by simp at h4 ⊢;exact Nat.le_antisymm (Ap 0x14c421412114120114b4211101 Aa h4) (Ap 0x14c412014214121115b4211101 Aa h4)⟩
    dsimp only at hj
    rw[List.length_append,List.length_singleton] at hj
    by_cases c4:j<lo.length
    ·exact old j c4
    ·have e:j=lo.length:=by exact Nat.le_antisymm (Ac 0x14c110116a4121101 Aa hj) (Ac 0x14c011117a1101 Aa c4)
     subst e
     rw[EH,h1]
     show Bz 0 (plain (BJ (a,2)))=_
     rw[Ke a 2 (by exact AE 0x10c0202 Aa)]
     rfl
   ·rw[if_neg c3]
    have hp:0<op.length:=List.length_pos_iff.mpr c3
    refine⟨old,?_⟩
    simp
    exact Nat.le_antisymm (AW 0x14c441314412210114b441314211114b1141201 Aa h4 (Nat.sub_add_cancel (Ah 0x14c011216a0102 Aa hp))) (AW 0x14c441221114413115b441314210114a4121101 Aa h4 Bl)
  ·rw[if_neg c2]
   refine⟨old,?_⟩
   rw[List.count_singleton,List.count_singleton]
   have e1:(κ==1)=false:=beq_false_of_ne c1
   have e2:(κ==2)=false:=beq_false_of_ne c2
   rw[e1,e2]
   exact h4
theorem ZI(w0 w1 w2 w3 w4 w5:Nat×Nat):LoneMin [w0,w1,w2,w3,w4,w5] (Bh (Bb [w0,w1,w2,w3,w4,w5])):=by
 have m0:LoneMin [] ([],[]):=⟨λ_ h=>absurd h (Nat.not_lt_zero _),rfl⟩
 have a0:LoneAt [] ([],[]):=⟨rfl,Nat.le_refl _⟩
 have m1:=m0.step w0.1 w0.2 0 a0
 have a1:=a0.step w0.1 w0.2 0
 have m2:=m1.step w1.1 w1.2 1 a1
 have a2:=a1.step w1.1 w1.2 1
 have m3:=m2.step w2.1 w2.2 2 a2
 have a3:=a2.step w2.1 w2.2 2
 have m4:=m3.step w3.1 w3.2 3 a3
 have a4:=a3.step w3.1 w3.2 3
 have m5:=m4.step w4.1 w4.2 4 a4
 have a5:=a4.step w4.1 w4.2 4
 exact m5.step w5.1 w5.2 5 a5
theorem QH(h:LoneAt ws s)(hm:s.1.length<=m):Bz m (plain (Bu ws))=some ((s.2.length+(m - s.1.length):Nat):Int):=by
 have:=WL (m - s.1.length) h.1
 rw[show(s.1.length:Int)+((m - s.1.length:Nat):Int)=(m:Int) by exact Int.le_antisymm (Ap 0x10c721470171114b2141101 Aa (Nat.sub_add_cancel (Ac 0x14c110114a1101 Aa hm))) (Ap 0x10c471172170114a4211101 Aa Bl)] at this
 rw[this]
 congr 1
theorem bE(h:LoneAt ws s)(h':LoneMin ws s)(m j:Nat)(hj:s.1.length<=m->j=s.2.length+(m - s.1.length)):
 EJ (plain ([(false,List.replicate m [40])]++Bu ws++[(false,List.replicate j [41])]))=decide (s.1.length<=m):=by
 unfold EJ
 rw[EL,EL,GN,GN,EH,Lg,Int.zero_add]
 by_cases c:s.1.length<=m
 ·rw[QH h c,Option.bind_some,hj c,LD _ _ (Nat.le_refl _),Nat.sub_self,decide_eq_true c];rfl
 ·rw[h'.1 m (by exact Ac 0x16c011115a1101 Aa c),decide_eq_false c];rfl
noncomputable def Ku:BG:=defAt tp 12
theorem mR:B4 tp "_law_lack"=some Ku:=rfl
noncomputable def gH:PySem.Expr:=DV (at' Ku.body 1)
noncomputable def lU:PySem.Expr->List Keyword
 |.Call _ _ k _=>k
 |_=>[]
noncomputable def V4(t:Str)(i:Int):AV:=match lU gH with
 |[k]=>match NG k.value with
  |some (ps,body,scope)=>.clo scope ps body [("rise",.int i),("text",.str t)]
  |none=>.none
 |_=>.none
noncomputable def LQ:List AV:=(List.range 7).map λk=>.str (S (List.replicate k 40))
noncomputable def Mk:AV->Nat
 |.str s=>s.length
 |_=>0
theorem cH{V:Nat}(hw:ws.length<=6)(h:LoneAt ws s)(h':LoneMin ws s){v:AV}(hv:v∈LQ):
 Fn (E V (n+14)) (V4 (S (raw (Bu ws))) ((s.2.length:Int) - s.1.length)) [v]=some (.bool (decide (s.1.length<=Mk v))):=by
 refine Ak (List.mem_map.mp hv) λm hm Ar=>?_;obtain rfl:=Ar
 have hm:=List.mem_range.mp hm
 have hl:=Ls ws
 have e1:Mk (.str (S (List.replicate m 40)))=m:=by
  show(S _).length=_
  rw[CA,List.length_replicate]
 have h2:=h.2
 rw[e1,<-bE h h' m ((m:Int)+((s.2.length:Int) - s.1.length)).toNat (λc=>by exact HR (λA6 Af=>Nat.le_antisymm (AW 0x14c411413110b4872174170173114a4211101 Aa Af Bl) (AW 0x14c314014111b4871174172173114b2141101 Aa Af (Nat.sub_add_cancel (Ac 0x14c110114a1101 Aa c)))) (λA6 Af=>Nat.le_antisymm (Ap 0x14c421110114b0201 Aa Af) (AW 0x14c414013110a024871173172114b2141101 Aa A6 (Nat.sub_add_cancel (Ac 0x14c110114a1101 Aa c)))))]
 have hg:Et ([(false,List.replicate m [40])]++Bu ws++[(false,List.replicate ((m:Int)+((s.2.length:Int) - s.1.length)).toNat [41])]):=IR (IR (JM (by decide) (by decide) _) (PC _)) (JM (by decide) (by decide) _)
 have hr:raw ([(false,List.replicate m [40])]++Bu ws++[(false,List.replicate ((m:Int)+((s.2.length:Int) - s.1.length)).toNat [41])])=List.replicate m 40++raw (Bu ws)++List.replicate ((m:Int)+((s.2.length:Int) - s.1.length)).toNat 41:=by
  rw[GH,GH,Kf,Kf]
 obtain⟨ρ',e⟩:=Qf (W:=V) (n:=n) hg (by rw[hr];simp only[List.length_append,List.length_replicate];show _<=100000;exact HR (λA6 Af=>Dy 0x14c186a0534014511114a414213114a815415126a721194a624110b48731721711701 Aa h2 hl.1 hm hw Af) (λA6 Af=>A7 0x14c186a0534014312114a815113116a722184a621114b0201 Aa hl.1 hm hw Af)) (by simp only[List.length_append,List.length_singleton];show _<100000;exact Ac 0x16c186a0534124124111214a315011134a6201 Aa hl.2 hw)
 rw[hr] at e
 have a1:CG .Add (.str (S (List.replicate m 40))) (.str (S (raw (Bu ws))))=some (.str (S (List.replicate m 40++raw (Bu ws)))):=F4 (by simp only[List.length_replicate];exact Ap 0x14c186a0534211114a815012116a721184a6201 Aa hl.1 hm hw)
 have a2:CG .Add (.str (S (List.replicate m 40++raw (Bu ws)))) (.str (S (List.replicate ((m:Int)+((s.2.length:Int) - s.1.length)).toNat 41)))=some (.str (S (List.replicate m 40++raw (Bu ws)++List.replicate ((m:Int)+((s.2.length:Int) - s.1.length)).toNat 41))):=
  F4 (by simp only[List.length_append,List.length_replicate];exact HR (λA6 Af=>Dy 0x14c186a0534014511114a414213114a815415126a721194a624110b48731721711701 Aa h2 hl.1 hm hw Af) (λA6 Af=>A7 0x14c186a0534014312114a815113116a722184a621114b0201 Aa hl.1 hm hw Af))
 refine Ab rfl (Ab rfl (Ab rfl (Ab rfl (Ab (Dp (Bp (Bt (Bt rfl rfl a1) (Bt rfl (Bt (Dn rfl rfl (by exact congrArg some e1) (by show _<=100000;exact Ah 0x14c186a0530116a7201 Aa hm) rfl rfl) rfl rfl) (JK Nr (by exact A7 0x10c4871172173193e83314a014211114a6201 Aa h2 hw) (by exact A7 0x10c3e8334872173171114a014312116a721114a6201 Aa h2 hm hw))) a2) rfl) rfl e rfl rfl rfl rfl rfl rfl) rfl))))
noncomputable def Fi:PySem.Expr:=DV (at' Ku.body 0)
theorem lZ{V:Nat}:∃ρ',B6 (compTurn (E V (n+5)) (A5 Ku.sc (Aj Fi)) (A9 Fi 0).target (A9 Fi 0).ifs (BF (E V (n+5)) (A5 Ku.sc (Aj Fi)) (Bn Fi) [])) (Ae (List.range 7)) [] ⟨[],Ay (Aj Fi)⟩=some (LQ,ρ'):=by
 refine Ak (Ez (r:=E V (n+5)) (sc:=A5 Ku.sc (Aj Fi)) (t:=(A9 Fi 0).target) (elt:=Bn Fi) (At:= λρ=>ρ=⟨[],Ay (Aj Fi)⟩∨∃v,ρ=⟨[("k",v)],Ay (Aj Fi)⟩) (f:= λv=>match v with|.int k=>.str (S (List.replicate k.toNat 40))|_=>.none) (its:=Ae (List.range 7)) (ρ:=⟨[],Ay (Aj Fi)⟩)
  (by
   intro v hv ρ a
   obtain⟨k,hk,rfl⟩:=List.mem_map.mp hv
   have hk:=List.mem_range.mp hk
   exact⟨⟨[("k",.int k)],Ay (Aj Fi)⟩,by obtain rfl|⟨_,rfl⟩:=a<;>rfl,.inr ⟨_,rfl⟩,Bt rfl rfl (JK MJ (by exact Ah 0x10c70193e833 Aa) (by exact Ah 0x10c3e83370116a7201 Aa hk))⟩) (by decide+kernel) (.inl rfl)) λρ' h1 _=>?_
 exact⟨ρ',h1⟩
theorem fQ{v:AV}(h:LQ[m]? =some v):Mk v=m:=by
 unfold LQ at h
 rw[List.getElem?_map] at h
 cases e:(List.range 7)[m]? with
 |none=>rw[e] at h;cases h
 |some a=>
  rw[e] at h
  (revert h;refine As λc0=>?_;subst c0)
  have:=List.getElem?_eq_some_iff.mp e
  obtain⟨h1,h2⟩:=this
  rw[List.getElem_range] at h2
  subst h2
  show(S _).length=_
  rw[CA,List.length_replicate]
theorem bZ{V:Nat}(hV:100<V)(hw:ws.length<=6)(h:LoneAt ws s)(h':LoneMin ws s):
 ∃ρ',BL (E V (n+21)) tp "_law_lack" [.str (S (raw (Bu ws))),.int ((s.2.length:Int) - s.1.length)] []=some (.int (s.1.length:Nat),ρ'):=by
 obtain⟨ρ1,e1⟩:=lZ (V:=V) (n:=n+15)
 have h2:=h.2
 obtain⟨AD,e2⟩:=V0 (W:=V) (n:=n+11) (g:=V4 (S (raw (Bu ws))) ((s.2.length:Int) - s.1.length)) (x:=.bool true) (xs:=LQ) (k:=s.1.length) (lo:=0) (kf:= λv=>.bool (decide (s.1.length<=Mk v))) (λv hv=>cH hw h h' hv) rfl ⟨rfl,rfl,rfl⟩ (by decide+kernel) (by show 7<V;exact Ah 0x16c017216a016423 Aa hV) (λm v _ hv=>by
  show some (!(decide (s.1.length<=Mk v))&&true)=_
  rw[fQ hv,Bool.and_true]
  congr 1
  rw[<-decide_not]
  exact decide_eq_decide.mpr (by exact⟨λBk=>Ac 0x16c011115a1101 Aa Bk,λBk=>Ac 0x15c011116a1101 Aa Bk⟩)) (Nat.zero_le _) (by show _<=7;exact Ap 0x14c721114a014211114a6201 Aa h2 hw)
 exact⟨_,CV mR rfl (Cz (Aq (as_list (Cg rfl rfl e1 rfl) rfl rfl rfl) (A3 (CB (Dp rfl rfl (CV Ly rfl e2) rfl rfl rfl rfl rfl rfl)))) rfl)⟩
noncomputable def D8(c:Nat)(z:List Nat)(l:List Nat):List Nat:=l.flatMap λk=>if k=c then z else[k]
theorem SG(c:Nat)(z:List Nat):∀l:List Nat,c∉l->D8 c z l=l:=by
 intro Al
 induction Al with
 |nil=>
  intro _
  exact rfl
 |cons k r zih=>
  intro h
  show(if k=c then z else[k])++D8 c z r=_
  rw[if_neg λe=>h (by rw[e];exact List.mem_cons_self),zih λm=>h (List.mem_cons_of_mem _ m)]
  rfl
theorem Qb(c:Nat)(z a b:List Nat):D8 c z (a++b)=D8 c z a++D8 c z b:=List.flatMap_append
theorem WG(c:Nat)(z:List Nat):∀RT:List Str,(∀p∈RT,c∉p.cps.toList)->D8 c z (Str.join ⟨#[c]⟩ RT).cps.toList=(Str.join (S z) RT).cps.toList
 |[],_=>rfl
 |[p],h=>SG c z _ (h p (List.mem_singleton.mpr rfl))
 |p::q::r,h=>by
  have ih:=WG c z (q::r) λa ha=>h a (List.mem_cons_of_mem _ ha)
  show D8 c z (p++⟨#[c]⟩++Str.join ⟨#[c]⟩ (q::r)).cps.toList=(p++S z++Str.join (S z) (q::r)).cps.toList
  simp only[Str.cps_append,Array.toList_append]
  rw[Qb,Qb,ih,SG c z _ (h p List.mem_cons_self),Hm]
  congr 2
  show(if c=c then z else[c])++[]=z
  rw[if_pos rfl,List.append_nil]
theorem mO(s:Str):S s.cps.toList=s:=by cases s;rfl
theorem cF(l:List Nat)(c:Nat)(z:List Nat):Txt.replace (S l) (S [c]) (S z)=S (D8 c z l):=by
 have e:(Txt.replace (S l) ⟨#[c]⟩ (S z)).cps.toList=D8 c z (S l).cps.toList:=by
  rw[StrLaws.replace_one,<-WG c z _ (StrLaws.split_free (S l) c),StrLaws.join_split]
 rw[Hm] at e
 rw[<-e,mO];rfl
noncomputable def qu(c:Nat):List Nat:=if c=34∨c=92 then[92,c] else[c]
theorem cA(l:List Nat):D8 34 [92,34] (D8 92 [92,92] l)=(l.map qu).flatten:=by
 induction l with
 |nil=>rfl
 |cons c r ih=>
  show D8 34 [92,34] ((if c=92 then[92,92] else[c])++D8 92 [92,92] r)=qu c++(r.map qu).flatten
  rw[Qb,ih]
  congr 1
  unfold qu
  by_cases h1:c=92
  ·subst h1;rfl
  ·rw[if_neg h1]
   show(if c=34 then[92,34] else[c])++[]=_
   by_cases h2:c=34
   ·subst h2;rfl
   ·rw[if_neg h2,if_neg (by exact λq=>q.elim h2 h1)];rfl
noncomputable def FA(c:Nat):Bool:=decide (c∈[97,98,99,100,101,102,120,40,41,35,39,12])
noncomputable def pu(c:Nat):List Nat:=if FA c=true then[c] else[92,c]
theorem gJ(c:Nat):Txt.contains "abcdefx()#'\x0c" ⟨#[c]⟩=FA c:=by
 have h:=StrLaws.found_one ("abcdefx()#'\x0c":Str) c
 refine h.trans ?_
 unfold FA
 exact decide_eq_decide.mpr (by rw[show("abcdefx()#'\x0c":Str).cps.toList=[97,98,99,100,101,102,120,40,41,35,39,12] by decide+kernel])
noncomputable def G8(κ:Nat):Nat:=if κ=1 then 9 else if κ=2 then 13 else 32
theorem jG:∀{κ:Nat},κ<4->El (.str " \t\r ") (.int κ)=some (.str (S [G8 κ])):=by
 intro zk zh
 refine IG (k:=zk) ?_ ?_ ?_ ?_ zh<;>(with_unfolding_all rfl)
noncomputable def ren(par κ:Nat)(l:List Nat):List Nat:=if par%2=1 then(l.map pu).flatten++[G8 κ] else 34::(l.map qu).flatten++[34]
noncomputable def Wd(l:List Nat):Prop:=l≠[]/\l.length<=8/\10∉l
theorem PE:∀l:List Nat,(l.map pu).flatten.length<=2*l.length:=by
 intro Al
 induction Al with
 |nil=>
  exact Nat.le_refl _
 |cons c r zih=>
  have:=zih
  have h:(pu c).length<=2:=by unfold pu;split<;>simp
  rw[List.map_cons,List.flatten_cons,List.length_append,List.length_cons];exact Ap 0x14c215412114012114a222114a2151101 Aa h this
theorem Pe:∀l:List Nat,(l.map qu).flatten.length<=2*l.length:=by
 intro Al
 induction Al with
 |nil=>
  exact Nat.le_refl _
 |cons c r zih=>
  have:=zih
  have h:(qu c).length<=2:=by unfold qu;split<;>simp
  rw[List.map_cons,List.flatten_cons,List.length_append,List.length_cons];exact Ap 0x14c215412114012114a222114a2151101 Aa h this
theorem ren_len{κ:Nat}(h:l.length<=8):(ren par κ l).length<=18:=by
 have h1:=PE l
 have h2:=Pe l
 unfold ren
 split
 ·rw[List.length_append,List.length_singleton];exact Ac 0x14c12234121114a215011124a8201 Aa h1 h
 ·rw[List.length_append,List.length_cons,List.length_singleton];exact Ac 0x14c12234124121114a215011124a8201 Aa h2 h
noncomputable def Db:BG:=defAt tp 10
theorem YE:B4 tp "_law_text"=some Db:=rfl
noncomputable def HW:Stmt:=at' Db.body 1
noncomputable def Ka:Stmt:=at' (AB HW) 0
noncomputable def Q4:Stmt:=at' (AB Ka) 0
noncomputable def S4:Stmt->PySem.Expr
 |.AugAssign _ _ e _=>e
 |_=>default
noncomputable def U7:PySem.Expr:=S4 (at' (MQ Q4) 0)
noncomputable def W0:PySem.Expr:=S4 (at' (NR Q4) 0)
noncomputable def DT:PySem.Expr:=match U7 with
 |.BinOp (.Call _ [a] _ _) _ _ _=>a
 |_=>default
noncomputable def Be(row:List (List Nat)):List AV:=row.map λl=>.str (S l)
noncomputable def xF(H:AV)(t:List Nat)(tl:List (Str×AV)):R:=⟨("hours",H)::("text",.str (S t))::tl,λ_=>false⟩
noncomputable def Gj(κ b:Nat)(row:List (List Nat))(k:Nat)(l:List Nat):List (Str×AV):=[("kind",.int κ),("row",.list (Be row)),("bare",.int b),("k",.int k),("word",.str (S l))]
theorem k8{V:Nat}(hl:l.length<=8):∃ρ',B6 (compTurn (E V (n+5)) (A5 Db.sc (Aj DT)) (A9 DT 0).target (A9 DT 0).ifs (BF (E V (n+5)) (A5 Db.sc (Aj DT)) (Bn DT) [])) (signsOf (S l)) [] ⟨[],Ay (Aj DT)⟩=some (Be (l.map pu),ρ'):=by
 refine Ak (Ez (r:=E V (n+5)) (sc:=A5 Db.sc (Aj DT)) (t:=(A9 DT 0).target) (elt:=Bn DT) (At:= λρ=>ρ=⟨[],Ay (Aj DT)⟩∨∃v,ρ=⟨[("sign",v)],Ay (Aj DT)⟩) (f:= λv=>match v with|.str s=>.str (S (pu (s.cps.toList.headD 0)))|_=>.none) (its:=signsOf (S l)) (ρ:=⟨[],Ay (Aj DT)⟩)
  (by
   intro v hv ρ a
   obtain⟨c,hc,rfl⟩:=List.mem_map.mp hv
   refine⟨⟨[("sign",.str ⟨#[c]⟩)],Ay (Aj DT)⟩,by obtain rfl|⟨_,rfl⟩:=a<;>rfl,.inr ⟨_,rfl⟩,?_⟩
   have t:∀{n:Nat},(E V (n+2)).t (A5 Db.sc (Aj DT)) (match Bn DT with|.IfExp t _ _ _=>t|_=>default) ⟨[("sign",.str ⟨#[c]⟩)],Ay (Aj DT)⟩=some (FA c,⟨[("sign",.str ⟨#[c]⟩)],Ay (Aj DT)⟩):= λ{n}=>Br (gJ c) rfl
   have e1:(⟨#[c]⟩:Str).cps.toList.headD 0=c:=rfl
   show _=some (AV.str (S (pu ((⟨#[c]⟩:Str).cps.toList.headD 0))),_)
   rw[e1]
   unfold pu
   cases hs:FA c with
   |true=>exact PK (Br hs t) rfl
   |false=>exact PK (Br hs t) rfl) (by show(List.map _ _).length<_;rw[List.length_map,Hm];exact Ah 0x16c15f90530114a8201 Aa hl) (.inl rfl)) λρ' h1 _=>?_
 refine⟨ρ',h1.trans ?_⟩
 unfold signsOf Be
 rw[Hm,List.map_map,List.map_map]
 rfl
theorem mU(row:List (List Nat)):HM (Be row)=some (row.map S):=by
 induction row with
 |nil=>rfl
 |cons a r ih=>exact Ab (x:=S a) rfl (Ab ih rfl)
theorem lE:∀row:List (List Nat),((row.map S).map Str.length).sum=row.flatten.length:=by
 intro Al
 induction Al with
 |nil=>
  exact rfl
 |cons l r zih=>
  rw[List.map_cons,List.map_cons,List.sum_cons,zih,CA,List.flatten_cons,List.length_append]
section
variable {V:Nat} {c:Nat} {b:PySem.Expr}
theorem SK(ha:HL a=some (S [c]))(hb:HL b=some (S z))(hl:l.length<=1000)(hz:z.length<=10)(hn:[c]≠z):valMeth r sc "replace" (.str (S l)) [a,b] ρ=some (.str (S (D8 c z l)),ρ):=by
 rw[<-cF]
 have g:=AF (decide_eq_true (p:=(S l).length<=1000/\(S z).length<=10/\(S [c]==S z)=false) ⟨by rw[CA];exact hl,by rw[CA];exact hz,by rw[Ks];exact beq_false_of_ne hn⟩)
 exact(if_pos rfl).trans (Ab (x:=S l) rfl (Ab (x:=(a,b)) rfl (Ab ha (Ab hb (Ab g rfl)))))
theorem nM{q p:Pos}(hx:Ca sc x ρ=some (.str (S l)))(ha:HL a=some (S [c]))(hb:HL b=some (S z))(hl:l.length<=1000)(hz:z.length<=10)(hn:[c]≠z)(hs:(([]:List Keyword).isEmpty&&ap.endLine==p.line&&decide (([a,b]:List PySem.Expr).length<=5))=true):
 (A1 top V (n+1)).e sc (.Call (.Attribute (.Name x q) "replace" ap) [a,b] [] p) ρ=some (.str (S (D8 c z l)),ρ):=by
 show Dd (A1 top V n) top sc (.Attribute (.Name x q) "replace" ap) [a,b] [] p ρ=_
 refine Ab (x:=((.Name x q,"replace",ap):PySem.Expr×Str×Pos)) rfl (Ab (AF hs) ?_)
 show I3 (A1 top V n) top sc x "replace" [a,b] ρ=_
 refine Ab hx ?_
 exact Ab (x:=()) rfl (SK ha hb hl hz hn)
theorem c9{f:PySem.Expr}{ks:List Keyword}{q p:Pos}(hf:(IW f).isSome=true)(h:(A1 top V n).e sc (.Call f es ks q) ρ=some (.str (S l),ρ1))(ha:HL a=some (S [c]))(hb:HL b=some (S z))(hl:l.length<=1000)(hz:z.length<=10)(hn:[c]≠z)(hs:(([]:List Keyword).isEmpty&&ap.endLine==p.line&&decide (([a,b]:List PySem.Expr).length<=5))=true):
 (A1 top V (n+1)).e sc (.Call (.Attribute (.Call f es ks q) "replace" ap) [a,b] [] p) ρ=some (.str (S (D8 c z l)),ρ1):=by
 show Dd (A1 top V n) top sc (.Attribute (.Call f es ks q) "replace" ap) [a,b] [] p ρ=_
 refine Ab (x:=((.Call f es ks q,"replace",ap):PySem.Expr×Str×Pos)) rfl (Ab (AF hs) ?_)
 exact Ab (AF hf) (Ab h (SK ha hb hl hz hn))
end
theorem mT{c:Nat}(hz:z.length<=2):∀l:List Nat,(D8 c z l).length<=2*l.length:=by
 intro Al
 induction Al with
 |nil=>
  exact Nat.le_refl _
 |cons k r zih=>
  have:=zih
  show((if k=c then z else[k])++D8 c z r).length<=_
  rw[List.length_append,List.length_cons]
  have h:(if k=c then z else[k]).length<=2:=by split<;>simp[hz]
  exact Ap 0x14c215412114012114a222114a2151101 Aa h this
theorem mP{V:Nat}{t:List Nat}{κ b:Nat}(hl:l.length<=8):
 (E V (n+5)).e Db.sc W0 (xF H t (Gj κ b row k l))=some (.str (S (34::(l.map qu).flatten++[34])),xF H t (Gj κ b row k l)):=by
 have h1:=mT (c:=92) (z:=[92,92]) (Nat.le_refl _) l
 have h2:=Pe l
 have q1:("\"":Str)=S [34]:=rfl
 have e:(E V (n+3)).e Db.sc (match W0 with|.BinOp (.BinOp _ _ x _) _ _ _=>x|_=>default) (xF H t (Gj κ b row k l))=some (.str (S ((l.map qu).flatten)),xF H t (Gj κ b row k l)):=by
  rw[<-cA]
  exact c9 rfl (nM rfl rfl rfl (by exact Ah 0x14c3e8330114a8201 Aa hl) (by decide) (by decide) rfl) rfl rfl (by exact Ac 0x14c3e8331114a215011124a8201 Aa h1 hl) (by decide) (by decide) rfl
 exact Bt (Bt rfl e (by rw[q1];exact F4 (a:=[34]) (by simp only[List.length_append,List.length_cons,List.length_nil];exact Ac 0x14c186a0534114120214a215011124a8201 Aa h2 hl))) rfl (by rw[q1];exact F4 (a:=[34]++_) (by simp only[List.length_append,List.length_cons,List.length_nil];exact Ac 0x14c186a0534412024114120214a215011124a8201 Aa h2 hl))
theorem jC{V:Nat}{t:List Nat}{κ b:Nat}(hl:l.length<=8)(Ce:κ<4):
 (E V (n+8)).e Db.sc U7 (xF H t (Gj κ b row k l))=some (.str (S ((l.map pu).flatten++[G8 κ])),xF H t (Gj κ b row k l)):=by
 obtain⟨ρ',e⟩:=k8 (V:=V) (n:=n) hl
 have h2:=PE l
 have j:Txt.join (⟨#[]⟩:Str) ((l.map pu).map S:List Str)=S (l.map pu).flatten:=Qj _
 have a1:CG .Add (.str (Txt.join (⟨#[]⟩:Str) ((l.map pu).map S:List Str))) (.str (S [G8 κ]))=some (.str (S ((l.map pu).flatten++[G8 κ]))):=by
  rw[j]
  exact F4 (by simp only[List.length_append,List.length_cons,List.length_nil];exact Ac 0x14c186a0534412021114a215011124a8201 Aa h2 hl)
 exact Bt (Lc rfl (Ed (Cg rfl rfl e rfl)) (mU _) (by rw[lE];show _<=100000;exact Ac 0x14c186a0531114a215011124a8201 Aa h2 hl) rfl rfl) (BM rfl rfl rfl (jG Ce) rfl rfl) a1
noncomputable def MR:Nat->List (List Nat)->List AV
 |_,[]=>[]
 |i,l::r=>.tup [.int i,.str (S l)]::MR (i+1) r
theorem j7:∀(row:List (List Nat)) (i:Nat),((Be row).zipIdx i).map (λp=>AV.tup [.int p.2,p.1])=MR i row:=by
 intro Al
 induction Al with
 |nil=>
  intro _
  exact rfl
 |cons l r ih=>
  intro i
  show((AV.str (S l)::Be r).zipIdx i).map _=_
  rw[List.zipIdx_cons,List.map_cons,ih (i+1)];rfl
noncomputable def DJ(b κ:Nat):Nat->List (List Nat)->List Nat
 |_,[]=>[]
 |i,l::r=>ren (b+i) κ l++DJ b κ (i+1) r
theorem Nm{b κ:Nat}:∀{row:List (List Nat)} {i:Nat},(∀l∈row,l.length<=8)->(DJ b κ i row).length<=18*row.length:=by
 intro Al
 induction Al with
 |nil=>
  intro _ _
  exact Nat.le_refl _
 |cons l r zih=>
  intro i h
  have h1:=ren_len (par:=b+i) (κ:=κ) (h l List.mem_cons_self)
  have h2:=zih (i:=i+1) λx hx=>h x (List.mem_cons_of_mem _ hx)
  show(ren (b+i) κ l++DJ b κ (i+1) r).length<=18*(r.length+1)
  rw[List.length_append];exact Ap 0x14c1225412214110114a1225211114a122301 Aa h2 h1
noncomputable def S6(κ b:Nat)(row:List (List Nat)):List (Str×AV):=[("kind",.int κ),("row",.list (Be row)),("bare",.int b)]
noncomputable def KZ(κ b:Nat)(row:List (List Nat))(tl:List (Str×AV)):Prop:=tl=S6 κ b row∨∃u v,tl=S6 κ b row++([("k",u),("word",v)]:List (Str×AV))
theorem kW{V:Nat}{t:List Nat}{κ b:Nat}(hl:l.length<=8)(Ce:κ<4)(ht:t.length<90000)(z:KZ κ b row tl):
 forTurn (E V (n+10)) Db.sc (BD Ka) (AB Ka) (.tup [.int k,.str (S l)]) (xF H t tl)=some (.next,xF H (t++ren (b+k) κ l) (Gj κ b row k l)):=by
 have Cp:BS Db.sc (BD Ka) (.tup [.int k,.str (S l)]) (xF H t tl)=some (xF H t (Gj κ b row k l)):=by
  obtain rfl|⟨_,_,rfl⟩:=z<;>rfl
 have tt:(E V (n+9)).t Db.sc (GJ Q4) (xF H t (Gj κ b row k l))=some (decide ((b+k)%2=1),xF H t (Gj κ b row k l)):=Br (Xb (b+k)) rfl
 have rl:=ren_len (par:=b+k) (κ:=κ) hl
 have au:∀{w:List Nat},w.length<=18->Gy .Add (.str (S t)) (.str (S w))=some (.str (S (t++w))):= λ{w} hw=>by
  rw[<-KC]
  exact QD (by rw[CA,CA];show _<=100000;exact Ac 0x14c186a0534110114a12231116a15f905301 Aa hw ht)
 unfold ren at rl ⊢
 by_cases c:(b+k)%2=1
 ·rw[if_pos c] at rl ⊢
  exact turn Cp (A3 (B3 (Br (decide_eq_true c) tt) (A3 (Mc rfl (jC hl Ce) (au rl) rfl))))
 ·rw[if_neg c] at rl ⊢
  exact turn Cp (A3 (AZ (Br (decide_eq_false c) tt) (A3 (Mc rfl (mP hl) (au rl) rfl))))
theorem YZ{V:Nat}{κ b:Nat}(Ce:κ<4):∀{r:List (List Nat)} {i:Nat} {t:List Nat} {tl:List (Str×AV)},(∀l∈r,l.length<=8)->t.length+18*r.length<90000->KZ κ b row tl->
 ∃AJ,KZ κ b row AJ/\BP (forTurn (E V (n+10)) Db.sc (BD Ka) (AB Ka)) (MR i r) (xF H t tl)=some (.next,xF H (t++DJ b κ i r) AJ):=by
 intro Al
 induction Al with
 |nil=>
  intro i t tl _ _ z
  exact⟨tl,z,by rw[show DJ b κ i []=[] from rfl,List.append_nil];rfl⟩
 |cons l r zih=>
  intro i t tl h ht z
  rw[List.length_cons] at ht
  have rl:=ren_len (par:=b+i) (κ:=κ) (h l List.mem_cons_self)
  refine Ak (zih (i:=i+1) (t:=t++ren (b+i) κ l) (tl:=Gj κ b row i l) (λx hx=>h x (List.mem_cons_of_mem _ hx)) (by rw[List.length_append];exact Ap 0x16c15f905341225114210114a12232116a15f9053412254121101 Aa rl ht) (.inr ⟨_,_,rfl⟩)) λAJ z' e=>?_
  exact⟨AJ,z',BH (kW (h l List.mem_cons_self) Ce (by exact Ac 0x16c15f90530116a15f9053412254121101 Aa ht) z) (e.trans (by rw[List.append_assoc];rfl))⟩
structure Hr where
 κ:Nat
 row:List (List Nat)
 b:Nat
noncomputable def Hr.v(x:Hr):AV:=.tup [.int x.κ,.list (Be x.row),.int x.b]
noncomputable def Hr.ok(x:Hr):Prop:=x.κ<4/\x.row.length<=3/\∀l∈x.row,l.length<=8
noncomputable def Hr.ren(x:Hr):List Nat:=DJ x.b x.κ 0 x.row++[10]
noncomputable def NQ(tl:List (Str×AV)):Prop:=tl=[]∨∃κ b row,KZ κ b row tl
theorem iO{V:Nat}{x:Hr}{t:List Nat}(h:x.ok)(ht:t.length<80000)(z:NQ tl):
 ∃AJ,NQ AJ/\forTurn (E V (n+11)) Db.sc (BD HW) (AB HW) x.v (xF H t tl)=some (.next,xF H (t++x.ren) AJ):=by
 obtain⟨κ,row,b⟩:=x
 revert h;refine Rk λh1 h2 h3=>?_
 dsimp only at h1 h2 h3
 obtain⟨BX,z1,Cp⟩:∃BX,KZ κ b row BX/\BS Db.sc (BD HW) (.tup [.int κ,.list (Be row),.int b]) (xF H t tl)=some (xF H t BX):=by
  obtain rfl|⟨_,_,_,rfl|⟨_,_,rfl⟩⟩:=z
  ·exact⟨_,.inl rfl,rfl⟩
  ·exact⟨_,.inl rfl,rfl⟩
  ·exact⟨_,.inr ⟨_,_,rfl⟩,rfl⟩
 have rl:=Nm (b:=b) (κ:=κ) (i:=0) h3
 refine Ak (YZ h1 (V:=V) (n:=n) (H:=H) (b:=b) (row:=row) (r:=row) (i:=0) (t:=t) h3 (by exact Ac 0x16c15f9053412251101124d321116a138805301 Aa h2 ht) z1) λC4 z2 e=>?_
 have en:JZ (E V (n+10)) Db.sc "enumerate" (.Name "row" default) (xF H t BX)=some (MR 0 row,xF H t BX):=by
  have g:=AF (decide_eq_true (show(Be row).length<=Bg by show(row.map _).length<=100000;rw[List.length_map];exact Ah 0x14c186a0530114a3201 Aa h2))
  rw[<-j7]
  obtain rfl|⟨_,_,rfl⟩:=z1<;>exact Ab rfl ((if_pos rfl).trans (Ab rfl (Ab g rfl)))
 have s0:AQ (E V (n+10)) tp V Db.sc (at' (AB HW) 0) (xF H t BX)=some (.next,xF H (t++DJ b κ 0 row) C4):=by
  obtain rfl|⟨_,_,rfl⟩:=z1<;>exact Mf rfl rfl en e rfl
 have au:Gy .Add (.str (S (t++DJ b κ 0 row))) (.str "\n")=some (.str (S (t++DJ b κ 0 row++[10]))):=by
  rw[<-KC (t++DJ b κ 0 row)]
  exact QD (by rw[CA,List.length_append];show _+1<=100000;exact Ap 0x14c186a0534124210114a12251121124d321116a138805301 Aa rl h2 ht)
 have s1:AQ (E V (n+10)) tp V Db.sc (at' (AB HW) 1) (xF H (t++DJ b κ 0 row) C4)=some (.next,xF H (t++(DJ b κ 0 row++[10])) C4):=by
  rw[<-List.append_assoc]
  obtain rfl|⟨_,_,rfl⟩:=z2
  ·exact Mc rfl rfl au rfl
  ·exact Mc rfl rfl au rfl
 exact⟨C4,.inr ⟨_,_,_,z2⟩,turn Cp (Aq s0 (A3 s1))⟩
theorem Hr.ren_len{x:Hr}(h:x.ok):x.ren.length<=60:=by
 have:=Nm (b:=x.b) (κ:=x.κ) (i:=0) h.2.2
 have q:=h.2.1
 unfold Hr.ren
 rw[List.length_append,List.length_singleton]
 exact Nat.le_trans (Nat.succ_le_succ (Nat.le_trans this (Nat.mul_le_mul_left 18 q))) (by decide)
theorem Zt{V:Nat}:∀{hs:List Hr} {t:List Nat} {tl:List (Str×AV)},(∀x∈hs,x.ok)->t.length+60*hs.length<70000->NQ tl->
 ∃AJ,NQ AJ/\BP (forTurn (E V (n+11)) Db.sc (BD HW) (AB HW)) (hs.map Hr.v) (xF H t tl)=some (.next,xF H (t++(hs.map Hr.ren).flatten) AJ):=by
 intro Al
 induction Al with
 |nil=>
  intro t tl _ _ z
  exact⟨tl,z,by rw[show(([]:List Hr).map Hr.ren).flatten=[] from rfl,List.append_nil];rfl⟩
 |cons x hs zih=>
  intro t tl h ht z
  rw[List.length_cons] at ht
  have hx:=h x List.mem_cons_self
  have rl:=Hr.ren_len hx
  refine Ak (iO (V:=V) (n:=n) (H:=H) (t:=t) hx (by exact Ac 0x16c13880530116a111705343c254121101 Aa ht) z) λBX z1 e1=>?_
  refine Ak (zih (t:=t++x.ren) (λy hy=>h y (List.mem_cons_of_mem _ hy)) (by rw[List.length_append];exact Ap 0x16c111705343c25114210114a3c232116a111705343c254121101 Aa rl ht) z1) λC4 z2 e2=>?_
  exact⟨C4,z2,BH e1 (e2.trans (by rw[List.append_assoc];rfl))⟩
theorem Zd{V:Nat}(h:∀x∈hs,x.ok)(hl:hs.length<1000):
 ∃ρ',BL (E V (n+12)) tp "_law_text" [.list (hs.map Hr.v)] []=some (.str (S (hs.map Hr.ren).flatten),ρ'):=by
 refine Ak (Zt (V:=V) (n:=n) (H:=.list (hs.map Hr.v)) (hs:=hs) (t:=[]) (tl:=[]) h (by rw[List.length_nil];exact Ah 0x16c111705343c2501023c6d3e83301 Aa hl) (.inl rfl)) λtl z e=>?_
 have last:∃ρ',AQ (E V (n+11)) tp V Db.sc (at' Db.body 2) (xF (.list (hs.map Hr.v)) ([]++(hs.map Hr.ren).flatten) tl)=some (.ret (.str (S (hs.map Hr.ren).flatten)),ρ'):=by
  obtain rfl|⟨_,_,_,rfl|⟨_,_,rfl⟩⟩:=z<;>exact⟨_,CB rfl⟩
 obtain⟨ρ',last⟩:=last
 exact⟨ρ',CV YE rfl (Cz (Aq rfl (Aq (E0 rfl rfl (Cr rfl rfl rfl) e) (A3 last))) rfl)⟩
theorem Zm(c:Nat):C7 (qu c)=c:=by
 unfold qu
 split<;>rfl
theorem S7(c:Nat):C7 (pu c)=c:=by
 unfold pu
 split<;>rfl
theorem fW{c:Nat}(h:c≠10):QU (qu c):=by
 unfold qu
 by_cases h1:c=34∨c=92
 ·rw[if_pos h1];exact .inr ⟨c,rfl,h⟩
 ·rw[if_neg h1];exact .inl ⟨c,rfl,by exact λq=>h1 (.inl q),by exact λq=>h1 (.inr q),h⟩
theorem Vm{c:Nat}(h:c≠10):FU (pu c):=by
 unfold pu
 by_cases h1:FA c=true
 ·rw[if_pos h1]
  refine⟨.inl ⟨c,rfl,λe=>?_,λe=>Ck (e▸h1:FA 92=true)⟩,λe=>Ck ((List.cons.inj e).1▸h1:FA 34=true)⟩
  exact e.elim (λe=>Ck (e▸h1:FA 10=true)) λe=>e.elim (λe=>Ck (e▸h1:FA 9=true)) λe=>e.elim (λe=>Ck (e▸h1:FA 13=true)) λe=>Ck (e▸h1:FA 32=true)
 ·rw[if_neg h1]
  exact⟨.inr ⟨c,rfl,h⟩,by simp⟩
theorem ZF(κ:Nat):G8 κ=9∨G8 κ=13∨G8 κ=32:=by
 unfold G8
 split
 ·exact .inl rfl
 ·split
  ·exact .inr (.inl rfl)
  ·exact .inr (.inr rfl)
theorem Ur{κ:Nat}{l:Int}{w s:List Nat}(h:Wd w)(hs:s.length<60000)(hW:100<W):Ends W n l (ren par κ w++s) (m+1) w l s:=by
 revert h;refine Rk λh1 h2 h3=>?_
 have nn:∀c∈w,c≠10:= λc hc e=>h3 (e▸hc)
 unfold ren
 by_cases c:par%2=1
 ·rw[if_pos c]
  cases w with
  |nil=>exact absurd rfl h1
  |cons a r=>
   have hl:=PE r
   rw[List.length_cons] at h2
   have:=mI (W:=W) (n:=n) (l:=l) (u:=pu a) (us:=r.map pu) (s:=s) (m:=m) (ZF κ) (Vm (nn a List.mem_cons_self)) (λu hu=>by
    refine Ak (List.mem_map.mp hu) λd hd Ar=>?_;obtain rfl:=Ar
    exact(Vm (nn d (List.mem_cons_of_mem _ hd))).1) (by exact Ap 0x16c11170534012114a215112124a824121116aea604301 Aa hl h2 hs) (by rw[List.length_map];exact Ah 0x16c11170530114a8241201 Aa h2) (by rw[List.length_map];exact Ac 0x16c011114a824121116a016423 Aa h2 hW)
   rw[S7,List.map_map,show C7∘pu=id from funext S7,List.map_id] at this
   rw[List.map_cons,List.flatten_cons,List.append_assoc _ [G8 κ] s]
   exact this
 ·rw[if_neg c]
  have hl:=Pe w
  have:=Y6 (W:=W) (n:=n) (l:=l) (us:=w.map qu) (s:=s) (m:=m) (λu hu=>by
   refine Ak (List.mem_map.mp hu) λd hd Ar=>?_;obtain rfl:=Ar
   exact fW (nn d hd)) (by exact Ap 0x16c11170534012114a215112124a821116aea604301 Aa hl h2 hs) (by rw[List.length_map];exact Ah 0x16c11170530114a8201 Aa h2) (by rw[List.length_map];exact Ac 0x16c011114a821116a016423 Aa h2 hW)
  rw[List.map_map,show C7∘qu=id from funext Zm,List.map_id] at this
  rw[List.cons_append,List.cons_append,List.append_assoc]
  exact this
theorem kK{V κ:Nat}{l:Int}{w s:List Nat}(h:Wd w)(hs:s.length<60000):Tok (V+110) l [] (ren par κ w++s) (S w) l [] s:= λn=>Ws (Ur (m:=V+109) h hs (by exact Ah 0x16c46e23016423 Aa))
theorem Zy{V κ:Nat}{l:Int}{w s:List Nat}(h:Wd w)(hs:s.length<60000):Tok (V+110) l [] (10::(ren par κ w++s)) (S w) (l+1) [] s:= λn=>Ws (gG (m:=V+109) (by have:=ren_len (par:=par) (κ:=κ) h.2.1;rw[List.length_append];exact Ac 0x16c13880534011114a12231116aea604301 Aa this hs) (Ur (m:=V+108) h hs (by exact Ah 0x16c46e23016423 Aa)))
theorem Ti{w:List Nat}(h:w≠[]):S w≠⟨#[]⟩:= λe=>h (Tz (b:=[]) e)
theorem Sw{V b κ:Nat}{l:Int}{s:List Nat}{ws:List (Str×Int)}(ht:Fh (V+110) l [] s ws l' q' s'):∀{r:List (List Nat)} {i:Nat},(∀w∈r,Wd w)->s.length+18*r.length<60000->Fh (V+110) l [] (DJ b κ i r++s) (r.map (λw=>(S w,l))++ws) l' q' s':=by
 intro Al
 induction Al with
 |nil=>
  intro _ _ _
  exact ht
 |cons w r zih=>
  intro i h hs
  rw[List.length_cons] at hs
  have hr:∀x∈r,Wd x:= λx hx=>h x (List.mem_cons_of_mem _ hx)
  have ih:=zih (i:=i+1) hr (by exact Ac 0x16cea604341225110116aea6043412254121101 Aa hs)
  have rl:=Nm (b:=b) (κ:=κ) (i:=i+1) λx hx=>(hr x hx).2.1
  show Fh _ l [] ((ren (b+i) κ w++DJ b κ (i+1) r)++s) _ _ _ _
  rw[List.append_assoc]
  exact .more (kK (h w List.mem_cons_self) (by rw[List.length_append];exact Ap 0x16cea60434012114a1225112116aea6043412254121101 Aa rl hs)) (Ti (h w List.mem_cons_self).1) ih
noncomputable def Hr.good(x:Hr):Prop:=x.κ<4/\x.row.length<=3/\x.row≠[]/\∀l∈x.row,Wd l
theorem Hr.good.ok{x:Hr}(h:x.good):x.ok:=⟨h.1,h.2.1,λl hl=>(h.2.2.2 l hl).2.1⟩
noncomputable def BW:Int->List Hr->List (Str×Int)
 |_,[]=>[]
 |l,x::hs=>x.row.map (λw=>(S w,l))++BW (l+1) hs
theorem m7{V:Nat}:∀{hs:List Hr} {l:Int},(∀x∈hs,x.good)->60*hs.length<50000->Fh (V+110) l [] (10::(hs.map Hr.ren).flatten) (BW (l+1) hs) (l+1+hs.length) [] []:=by
 intro Al
 induction Al with
 |nil=>
  intro l _ _
  show Fh _ l [] [10] [] _ _ _
  rw[show l+1+(([]:List Hr).length:Int)=l+1 by simp]
  exact .done λn=>ZY (V:=V+105)
 |cons x hs zih=>
  intro l h hl
  obtain⟨κ,row,b⟩:=x
  rw[List.length_cons] at hl
  have hx:=h _ List.mem_cons_self
  revert hx;refine Ni λh1 h2 h3 h4=>?_
  dsimp only at h1 h2 h3 h4
  have ih:=zih (l:=l+1) (λy hy=>h y (List.mem_cons_of_mem _ hy)) (by exact Ah 0x16cc350433c250116ac350433c2541201 Aa hl)
  have len:∀{hs:List Hr},(∀y∈hs,y.good)->(hs.map Hr.ren).flatten.length<=60*hs.length:=by
   intro hs hg
   induction hs with
   |nil=>exact Nat.le_refl _
   |cons y r ih=>
    have a:=Hr.ren_len (hg y List.mem_cons_self).ok
    have b:=ih λz hz=>hg z (List.mem_cons_of_mem _ hz)
    rw[List.map_cons,List.flatten_cons,List.length_append,List.length_cons]
    exact Ap 0x14c3c25412214110114a3c25211114a3c2301 Aa b a
  have l2:=len (λy hy=>h y (List.mem_cons_of_mem _ hy))
  cases row with
  |nil=>exact absurd rfl h3
  |cons w r=>
   have hr:∀x∈r,Wd x:= λx hx=>h4 x (List.mem_cons_of_mem _ hx)
   rw[List.length_cons] at h2
   have rr:=Sw (b:=b) (κ:=κ) ih (r:=r) (i:=1) hr (by simp only[List.length_cons];exact Ap 0x16cea6043412252141211124d324122114a3c25011116ac350433c2541201 Aa h2 l2 hl)
   have rl:=Nm (b:=b) (κ:=κ) (i:=1) λx hx=>(hr x hx).2.1
   have e:(((⟨κ,w::r,b⟩:Hr)::hs).map Hr.ren).flatten=ren (b+0) κ w++(DJ b κ 1 r++10::(hs.map Hr.ren).flatten):=by
    show((ren (b+0) κ w++DJ b κ 1 r)++[10])++_=_
    simp only[List.append_assoc];rfl
   rw[e,show l+1+((((⟨κ,w::r,b⟩:Hr)::hs).length:Nat):Int)=l+1+1+(hs.length:Nat) by rw[List.length_cons];exact Int.le_antisymm (BO 0x10c470141241201474120141201 Aa) (BO 0x10c474120141201470141241201 Aa)]
   exact .more (Zy (h4 w List.mem_cons_self) (by simp only[List.length_append,List.length_cons];exact A7 0x16cea60434412113114a12252131124d324122114a3c25011116ac350433c2541201 Aa rl h2 l2 hl)) (Ti (h4 w List.mem_cons_self).1) rr
theorem Z5{V:Nat}{x:Hr}(h:∀y∈x::hs,y.good)(hl:hs.length<500):Fh (V+110) 1 [] (((x::hs).map Hr.ren).flatten) (BW 1 (x::hs)) (2+hs.length) [] []:=by
 have k:=m7 (V:=V) (hs:=hs) (l:=1) (λy hy=>h y (List.mem_cons_of_mem _ hy)) (by exact Ah 0x16cc350433c25013c6d1f43301 Aa hl)
 have hx:=h x List.mem_cons_self
 have len:∀{hs:List Hr},(∀y∈hs,y.good)->(hs.map Hr.ren).flatten.length<=60*hs.length:=by
  intro hs hg
  induction hs with
  |nil=>exact Nat.le_refl _
  |cons y r ih=>
   have a:=Hr.ren_len (hg y List.mem_cons_self).ok
   have b:=ih λz hz=>hg z (List.mem_cons_of_mem _ hz)
   rw[List.map_cons,List.flatten_cons,List.length_append,List.length_cons]
   exact Ap 0x14c3c25412214110114a3c25211114a3c2301 Aa b a
 have l2:=len (λy hy=>h y (List.mem_cons_of_mem _ hy))
 have rr:=Sw (b:=x.b) (κ:=x.κ) k (r:=x.row) (i:=0) hx.2.2.2 (by have:=hx.2.1;simp only[List.length_cons];exact Ap 0x16cea6043412252141211124d322114a3c2501113c6d1f43301 Aa this l2 hl)
 have e:((x::hs).map Hr.ren).flatten=DJ x.b x.κ 0 x.row++10::(hs.map Hr.ren).flatten:=by
  show(DJ x.b x.κ 0 x.row++[10])++_=_
  simp only[List.append_assoc];rfl
 rw[e]
 exact rr
noncomputable def En:BG:=defAt tp 9
theorem f8:B4 tp "_law_hours"=some En:=rfl
noncomputable def NL(l:List Nat):Prop:=Wd l/\DB (S l)
noncomputable def Dx:List (List Nat):=[[97],[98,12,32,99],[34],[92],[35],[100,9,101],[34,34],[92,92],[40,41],[102,13],[39],[92,34]]
theorem kP:∀l∈Dx,NL l:=by
 have h:∀l∈Dx,(l≠[]/\l.length<=8/\10∉l)/\(PyData.strOk (S l)=true/\(S l==⟨#[]⟩)=false/\(S l=="z")=false):=by decide+kernel
 intro l hl
 refine IV (h l hl) λh1 h2 h3 h4=>?_
 exact⟨h1,h2,λe=>by rw[e] at h3;exact absurd h3 (by decide+kernel),λe=>by rw[e] at h4;exact absurd h4 (by decide+kernel)⟩
noncomputable def Gz:Stmt:=at' En.body 3
noncomputable def yF(sv:AV)(N:List (List Nat))(hs:List Hr)(tl:List (Str×AV)):R:=⟨("script",sv)::("names",.list (Be N))::("hours",.ol (hs.map Hr.v))::tl,λ_=>false⟩
noncomputable def WU(tl:List (Str×AV)):Prop:=tl=[]∨∃a b c d,tl=([("k",a),("x",b),("word",c),("come",d)]:List (Str×AV))
noncomputable def GC(k:Nat):Int:=([134,77,99,50,178,21]:List Int).getD k 0
theorem gZ(L:List Int)(is:List Nat):is.filterMap ((L.map AV.int)[·]?)=(is.filterMap (L[·]?)).map AV.int:=by
 rw[List.map_filterMap]
 congr 1
 funext i
 rw[List.getElem?_map]
theorem Za(L:List Int):Hw (L.map AV.int)=some L:=by
 induction L with
 |nil=>rfl
 |cons a r ih=>exact Ab (x:=a) rfl (Ab ih rfl)
theorem slice_ints(L:List Int)(hL:L.length<=100000)(k:Nat):∃L':List Int,D5 (.list (L.map AV.int)) (some (k:Int)) none (some 6)=some (.list (L'.map .int)):=by
 refine⟨_,Ab (AF (decide_eq_true (by rw[List.length_map];exact hL))) (congrArg (λz=>some (AV.list z)) (gZ L _))⟩
theorem WN:∀{a:Nat},a<6->El (.list [.str "",.str "\"\\\")\"",.str "\\)",.str "\\\\\"(\"",.str "\\\\",.str "\\\""]) (.int a)=some (.str (S (raw (HK a)))):=by
 intro zk zh
 refine Jg (k:=zk) ?_ ?_ ?_ ?_ ?_ ?_ zh<;>(with_unfolding_all rfl)
theorem TO:∀{a:Nat},a<4->El (.list [.str "x",.str "(",.str ")",.str "()"]) (.int a)=some (.str (S (raw (HH a)))):=by
 intro zk zh
 refine IG (k:=zk) ?_ ?_ ?_ ?_ zh<;>(with_unfolding_all rfl)
noncomputable def cnt(c:Nat):Nat:=([0,1,0,2]:List Nat).getD c 0
theorem Wo:∀{a:Nat},a<4->El (.list [.int 0,.int 1,.int 0,.int 2]) (.int a)=some (.int (cnt a:Nat)):=by
 intro zk zh
 refine IG (k:=zk) ?_ ?_ ?_ ?_ zh<;>(exact rfl)
theorem f4:∀{a:Nat},a<4->cnt a<=2:=by
 intro zk zh
 refine IG (k:=zk) ?_ ?_ ?_ ?_ zh<;>(decide)
theorem WF:∀{k:Nat},k<6->El (.list [.int 134,.int 77,.int 99,.int 50,.int 178,.int 21]) (.int k)=some (.int (GC k)):=by
 intro zk zh
 refine Jg (k:=zk) ?_ ?_ ?_ ?_ ?_ ?_ zh<;>(exact rfl)
theorem Lo(x:Int){m:Int}(h0:0<m)(h1:m<1000):∃r:Nat,(r:Int)<m/\CG .Mod (.int x) (.int m)=some (.int r):=by
 refine⟨(x.fmod m).toNat,?_,?_⟩
 ·rw[Int.toNat_of_nonneg (Int.fmod_nonneg_of_pos x h0)]
  exact Int.fmod_lt_of_pos x h0
 ·have:=Int.fmod_nonneg_of_pos x h0
  refine Ab (x:=x) rfl (Ab (x:=m) rfl (Ab (AF (decide_eq_true ⟨h0,h1⟩)) ?_))
  congr 2;exact HR (λA6 Af=>Int.le_antisymm (BO 0x10c7010111b01701 Aa Af) (BO 0x10c0170110b01701 Aa Af)) (λA6 Af=>Int.le_antisymm (BO 0x10c7010110a0201 Aa A6) (BO 0x10c0170110a010214b0201 Aa this Af))
theorem PF(x:Int){m:Int}(h0:0<m)(h1:m<1000):CG .FloorDiv (.int x) (.int m)=some (.int (x.fdiv m)):=Ab (x:=x) rfl (Ab (x:=m) rfl (Ab (AF (decide_eq_true ⟨h0,h1⟩)) rfl))
theorem IM(N:List (List Nat)):(Be N).length=N.length:=List.length_map _
theorem Pz{N:List (List Nat)}(h:N.length<=100000)(n:Nat):D5 (.list (Be N)) none (some (n:Int)) none=some (.list (Be (N.take n))):=Hk (by rw[IM];exact h) (by rw[Rn];unfold Be;rw[List.map_take])
theorem UJ{N:List (List Nat)}(h:N.length<=100000)(n:Nat):D5 (.list (Be N)) (some (n:Int)) none none=some (.list (Be (N.drop n))):=Hk (by rw[IM];exact h) (by rw[Pj];unfold Be;rw[List.map_drop])
noncomputable def Qd(x:Hr):Prop:=∃a come,a<6/\x.κ<4/\x.row=raw (BJ (a,x.κ))::come/\come.length<=2/\∀l∈come,NL l
theorem MT{p q:Pos}{L:List Int}(h1:Cs sc a ρ=none)(h2:(A1 top W n).e sc a ρ=some (.list (L.map .int),ρ1))(g:BI a=true)(hg:BV sc "sum"=true):
 (A1 top W (n+1)).e sc (.Call (.Name "sum" q) [a] [] p) ρ=some (.int L.sum,ρ1):=Ue h1 h2 (Za L) g hg
noncomputable def Mb(k:Nat)(x:Int)(w:List Nat)(c:List (List Nat)):List (Str×AV):=[("k",.int k),("x",.int x),("word",.str (S w)),("come",.list (Be c))]
theorem Ko{V:Nat}{L:List Int}{N:List (List Nat)}(hL:L.length<=100000)(hk:k<6)(hN:∀l∈N,NL l)(lN:N.length<=12)(hh:hs.length<100)(z:WU tl):
 ∃N' x AJ,(∀l∈N',NL l)/\N'.length<=12/\Qd x/\WU AJ/\forTurn (E V (n+12)) En.sc (BD Gz) (AB Gz) (.int k) (yF (.list (L.map .int)) N hs tl)=some (.next,yF (.list (L.map .int)) N' (hs++[x]) AJ):=by
 obtain⟨L',e1⟩:=slice_ints L hL k
 refine Ak (Lo ((GC k+L'.sum).fdiv 16) (m:=6) (by decide) (by decide)) λa a1 a2=>?_
 refine Ak (Lo (GC k+L'.sum) (m:=4) (by decide) (by decide)) λκ k1 k2=>?_
 refine Ak (Lo ((GC k+L'.sum).fdiv 4) (m:=4) (by decide) (by decide)) λc c1 c2=>?_
 refine Ak (Lo ((GC k+L'.sum).fdiv 96) (m:=2) (by decide) (by decide)) λb b1 b2=>?_
 have a1:a<6:=by exact Ah 0x16c620112a62701 Aa a1
 have k1:κ<4:=by exact Ah 0x16c420112a42701 Aa k1
 have c1:c<4:=by exact Ah 0x16c420112a42701 Aa c1
 have Sg:=PF (GC k+L'.sum) (m:=16) (by decide) (by decide)
 have d4:=PF (GC k+L'.sum) (m:=4) (by decide) (by decide)
 have XH:=PF (GC k+L'.sum) (m:=96) (by decide) (by decide)
 generalize hx:GC k+L'.sum=x at a2 k2 c2 b2 Sg d4 XH
 have x1:CG .Add (.int (GC k)) (.int L'.sum)=some (.int x):=by rw[<-hx];rfl
 obtain⟨BX,z1,Cp⟩:∃BX,(BX=([("k",.int k)]:List (Str×AV))∨∃b c d,BX=([("k",.int k),("x",b),("word",c),("come",d)]:List (Str×AV)))/\BS En.sc (BD Gz) (.int k) (yF (.list (L.map .int)) N hs tl)=some (yF (.list (L.map .int)) N hs BX):=by
  obtain rfl|⟨_,_,_,_,rfl⟩:=z
  ·exact⟨_,.inl rfl,rfl⟩
  ·exact⟨_,.inr ⟨_,_,_,rfl⟩,rfl⟩
 obtain⟨C4,z2,s0⟩:∃C4,(C4=([("k",.int k),("x",.int x)]:List (Str×AV))∨∃c d,C4=([("k",.int k),("x",.int x),("word",c),("come",d)]:List (Str×AV)))/\AQ (E V (n+11)) tp V En.sc (at' (AB Gz) 0) (yF (.list (L.map .int)) N hs BX)=some (.next,yF (.list (L.map .int)) N hs C4):=by
  obtain rfl|⟨_,_,_,rfl⟩:=z1
  ·exact⟨_,.inl rfl,BK (Bt (BM rfl rfl rfl (WF hk) rfl rfl) (MT rfl (Dm rfl rfl rfl e1) rfl rfl) x1) rfl rfl⟩
  ·exact⟨_,.inr ⟨_,_,rfl⟩,BK (Bt (BM rfl rfl rfl (WF hk) rfl rfl) (MT rfl (Dm rfl rfl rfl e1) rfl rfl) x1) rfl rfl⟩
 have w1:CG .Add (.str (S (raw (HK a)))) (.str (S (raw (HH κ))))=some (.str (S (raw (BJ (a,κ))))):=by
  have:=QX (a,κ)
  unfold BJ at this ⊢
  rw[GH] at this ⊢
  rw[List.length_append] at this
  dsimp only at this ⊢
  exact F4 (by exact Ac 0x14c186a0534110114a8241101 Aa this.1)
 obtain⟨EQ,z3,s1⟩:∃EQ,(EQ=([("k",.int k),("x",.int x),("word",.str (S (raw (BJ (a,κ)))))]:List (Str×AV))∨∃d,EQ=([("k",.int k),("x",.int x),("word",.str (S (raw (BJ (a,κ))))),("come",d)]:List (Str×AV)))/\AQ (E V (n+11)) tp V En.sc (at' (AB Gz) 1) (yF (.list (L.map .int)) N hs C4)=some (.next,yF (.list (L.map .int)) N hs EQ):=by
  obtain rfl|⟨_,_,rfl⟩:=z2
  ·exact⟨_,.inl rfl,BK (Bt (BM rfl rfl (Bt (Bt rfl rfl Sg) rfl a2) (WN a1) rfl rfl) (BM rfl rfl (Bt rfl rfl k2) (TO k1) rfl rfl) w1) rfl rfl⟩
  ·exact⟨_,.inr ⟨_,rfl⟩,BK (Bt (BM rfl rfl (Bt (Bt rfl rfl Sg) rfl a2) (WN a1) rfl rfl) (BM rfl rfl (Bt rfl rfl k2) (TO k1) rfl rfl) w1) rfl rfl⟩
 have s2:AQ (E V (n+11)) tp V En.sc (at' (AB Gz) 2) (yF (.list (L.map .int)) N hs EQ)=some (.next,yF (.list (L.map .int)) N hs (Mb k x (raw (BJ (a,κ))) (N.take (cnt c)))):=by
  obtain rfl|⟨_,rfl⟩:=z3
  ·exact BK (Dm rfl rfl (Hu rfl (Il (BM rfl rfl (Bt (Bt rfl rfl d4) rfl c2) (Wo c1) rfl rfl))) (Pz (by exact Ah 0x14c186a0530114ac201 Aa lN) _)) rfl rfl
  ·exact BK (Dm rfl rfl (Hu rfl (Il (BM rfl rfl (Bt (Bt rfl rfl d4) rfl c2) (Wo c1) rfl rfl))) (Pz (by exact Ah 0x14c186a0530114ac201 Aa lN) _)) rfl rfl
 have lc:(Be (N.take (cnt c))).length<=12:=by rw[IM,List.length_take];exact Ac 0x14cc20114ac21114a1101 Aa lN (Nat.min_le_right _ _)
 have s3:AQ (E V (n+11)) tp V En.sc (at' (AB Gz) 3) (yF (.list (L.map .int)) N hs (Mb k x (raw (BJ (a,κ))) (N.take (cnt c))))=some (.next,yF (.list (L.map .int)) (N.drop (Be (N.take (cnt c))).length) hs (Mb k x (raw (BJ (a,κ))) (N.take (cnt c)))):=
  BK (Dm rfl rfl (Hu (Il (Dn rfl rfl rfl (by show _<=100000;exact Ah 0x14c186a0530114ac201 Aa lc) rfl rfl)) rfl) (UJ (by exact Ah 0x14c186a0530114ac201 Aa lN) _)) rfl rfl
 have ap:CG .Add (.list [.str (S (raw (BJ (a,κ))))]) (.list (Be (N.take (cnt c))))=some (.list (Be (raw (BJ (a,κ))::N.take (cnt c)))):=I0 (by show 1+_<=100000;exact Ah 0x14c186a0534011214ac201 Aa lc)
 have s4:AQ (E V (n+11)) tp V En.sc (at' (AB Gz) 4) (yF (.list (L.map .int)) (N.drop (Be (N.take (cnt c))).length) hs (Mb k x (raw (BJ (a,κ))) (N.take (cnt c))))=some (.next,yF (.list (L.map .int)) (N.drop (Be (N.take (cnt c))).length) (hs++[⟨κ,raw (BJ (a,κ))::N.take (cnt c),b⟩]) (Mb k x (raw (BJ (a,κ))) (N.take (cnt c)))):=by
  refine DM (Bp (G9 (B7 (Bt rfl rfl k2) (B7 (Bt rfl rfl ap) (Bp (Bt (Bt rfl rfl XH) rfl b2) rfl) rfl) rfl) (by show 3<=100000;exact AE 0x14c186a05332 Aa)) rfl) rfl rfl (FF (by rw[List.length_map];show _<100000;exact Ah 0x16c186a0530116a642301 Aa hh)) rfl ?_
  unfold yF
  rw[List.map_append];rfl
 refine⟨N.drop (Be (N.take (cnt c))).length,⟨κ,raw (BJ (a,κ))::N.take (cnt c),b⟩,_,λl hl=>hN l (List.mem_of_mem_drop hl),by rw[List.length_drop];exact Ac 0x14cc20114ac21114a1101 Aa lN (Nat.sub_le _ _),⟨a,N.take (cnt c),a1,k1,rfl,?_,λl hl=>hN l (List.mem_of_mem_take hl)⟩,.inr ⟨_,_,_,_,rfl⟩,turn Cp (Aq s0 (Aq s1 (Aq s2 (Aq s3 (A3 s4)))))⟩
 rw[List.length_take]
 exact Nat.le_trans (Nat.min_le_left _ _) (f4 c1)
theorem eN{V:Nat}{L:List Int}(hL:L.length<=100000):∃x0 x1 x2 x3 x4 x5,(∀x∈[x0,x1,x2,x3,x4,x5],Qd x)/\∃ρ',BL (E V (n+13)) tp "_law_hours" [.list (L.map .int)] []=some (.list ([x0,x1,x2,x3,x4,x5].map Hr.v),ρ'):=by
 refine Ak (Lo L.sum (m:=12) (by decide) (by decide)) λr r1 r2=>?_
 have ml:Dx.length=12:=rfl
 have b0:AQ (E V (n+12)) tp V En.sc (at' En.body 0) ⟨[("script",.list (L.map .int))],λ_=>false⟩=some (.next,⟨[("script",.list (L.map .int)),("names",.list (Be Dx))],λ_=>false⟩):=by with_unfolding_all rfl
 have a1:CG .Add (.list (Be (Dx.drop r))) (.list (Be (Dx.take r)))=some (.list (Be (Dx.drop r++Dx.take r))):=by
  have:=I0 (xs:=Be (Dx.drop r)) (ys:=Be (Dx.take r)) (by rw[IM,IM,List.length_drop,List.length_take];show _<=100000;exact A7 0x14c186a0534310114bc22114a113114b2141101 Aa ml (Nat.min_le_left _ _) (Nat.sub_add_cancel (Ac 0x14c110115bc21112ac2701 Aa ml r1)))
  unfold Be at this ⊢
  rwa [<-List.map_append] at this
 have b1:AQ (E V (n+12)) tp V En.sc (at' En.body 1) ⟨[("script",.list (L.map .int)),("names",.list (Be Dx))],λ_=>false⟩=some (.next,⟨[("script",.list (L.map .int)),("names",.list (Be (Dx.drop r++Dx.take r)))],λ_=>false⟩):=
  BK (Bt (Dm rfl rfl (Hu (Il (Bt (MT rfl rfl rfl rfl) rfl r2)) rfl) (UJ (by exact Ah 0x14c186a0530114bc201 Aa ml) r)) (Dm rfl rfl (Hu rfl (Il (Bt (MT rfl rfl rfl rfl) rfl r2))) (Pz (by exact Ah 0x14c186a0530114bc201 Aa ml) r)) a1) rfl rfl
 have nN:∀l∈Dx.drop r++Dx.take r,NL l:= λl hl=>kP l ((List.mem_append.mp hl).elim List.mem_of_mem_drop List.mem_of_mem_take)
 have lN:(Dx.drop r++Dx.take r).length<=12:=by rw[List.length_append,List.length_drop,List.length_take];exact A7 0x14cc24310114bc22114a113114b2141101 Aa ml (Nat.min_le_left _ _) (Nat.sub_add_cancel (Ac 0x14c110115bc21112ac2701 Aa ml r1))
 refine Fo (Ko (V:=V) (n:=n) (hs:=[]) (k:=0) (tl:=[]) hL (by exact AE 0x16c6202 Aa) nN lN (by decide) (.inl rfl)) λN0 x0 Mx n0 l0 h0 z0 e0=>?_
 refine Fo (Ko (V:=V) (n:=n) (hs:=[x0]) (k:=1) hL (by exact AE 0x16c6212 Aa) n0 l0 (by show 1<100;exact AE 0x16c642312 Aa) z0) λN1 x1 BX n1 l1 h1 z1 e1=>?_
 refine Fo (Ko (V:=V) (n:=n) (hs:=[x0,x1]) (k:=2) hL (by exact AE 0x16c6222 Aa) n1 l1 (by show 2<100;exact AE 0x16c642322 Aa) z1) λN2 x2 C4 n2 l2 h2 z2 e2=>?_
 refine Fo (Ko (V:=V) (n:=n) (hs:=[x0,x1,x2]) (k:=3) hL (by exact AE 0x16c6232 Aa) n2 l2 (by show 3<100;exact AE 0x16c642332 Aa) z2) λN3 x3 EQ n3 l3 h3 z3 e3=>?_
 refine Fo (Ko (V:=V) (n:=n) (hs:=[x0,x1,x2,x3]) (k:=4) hL (by exact AE 0x16c6242 Aa) n3 l3 (by show 4<100;exact AE 0x16c642342 Aa) z3) λN4 x4 Ju n4 l4 h4 z4 e4=>?_
 refine Fo (Ko (V:=V) (n:=n) (hs:=[x0,x1,x2,x3,x4]) (k:=5) hL (by exact AE 0x16c6252 Aa) n4 l4 (by show 5<100;exact AE 0x16c642352 Aa) z4) λN5 x5 HB n5 l5 h5 z5 e5=>?_
 refine⟨x0,x1,x2,x3,x4,x5,λx hx=>?_,?_⟩
 ·simp only[List.mem_cons,List.not_mem_nil,or_false] at hx
  obtain rfl|rfl|rfl|rfl|rfl|rfl:=hx<;>assumption
 ·have run:BP (forTurn (E V (n+12)) En.sc (BD Gz) (AB Gz)) [.int (0:Nat),.int (1:Nat),.int (2:Nat),.int (3:Nat),.int (4:Nat),.int (5:Nat)] (yF (.list (L.map .int)) (Dx.drop r++Dx.take r) [] [])=some (.next,yF (.list (L.map .int)) N5 [x0,x1,x2,x3,x4,x5] HB):=BH e0 (BH e1 (BH e2 (BH e3 (BH e4 (BH e5 rfl)))))
  have last:∃ρ',AQ (E V (n+12)) tp V En.sc (at' En.body 4) (yF (.list (L.map .int)) N5 [x0,x1,x2,x3,x4,x5] HB)=some (.ret (.list ([x0,x1,x2,x3,x4,x5].map Hr.v)),ρ'):=by
   obtain rfl|⟨_,_,_,_,rfl⟩:=z5<;>exact⟨_,CB rfl⟩
  obtain⟨ρ',last⟩:=last
  exact⟨ρ',CV f8 rfl (Cz (Aq b0 (Aq b1 (Aq rfl (Aq (E0 rfl rfl rfl run) (A3 last))))) rfl)⟩
noncomputable def AX:BG:=defAt tp 18
theorem Tc:B4 tp "law"=some AX:=rfl
structure Hx where
 a:Nat
 κ:Nat
 come:List (List Nat)
 b:Nat
noncomputable def Hx.hr(d:Hx):Hr:=⟨d.κ,raw (BJ (d.a,d.κ))::d.come,d.b⟩
noncomputable def Hx.w(d:Hx):Nat×Nat:=(d.a,d.κ)
noncomputable def Hx.c(d:Hx):List Str:=d.come.map S
noncomputable def Hx.ok(d:Hx):Prop:=d.a<6/\d.κ<4/\d.come.length<=2/\∀l∈d.come,NL l
theorem Kw{x:Hr}(h:Qd x):∃d:Hx,d.hr=x/\d.ok:=by
 obtain⟨κ,row,b⟩:=x
 revert h;refine cD λa come h1 h2 h3 h4 h5=>?_
 dsimp only at h2 h3
 exact⟨⟨a,κ,come,b⟩,by rw[h3];rfl,h1,h2,h4,h5⟩
theorem Vu:∀a<6,∀κ<4,raw (BJ (a,κ))≠[]/\10∉raw (BJ (a,κ))/\PyData.strOk (S (raw (BJ (a,κ))))=true:=by decide+kernel
theorem Hx.ok.good{d:Hx}(h:d.ok):d.hr.good:=by
 revert h;refine Ni λh1 h2 h3 h4=>?_
 refine⟨h2,by show d.come.length+1<=3;exact Ah 0x14c324120114a2201 Aa h3,by show _::_≠_;simp,λl hl=>?_⟩
 obtain rfl|hl:=List.mem_cons.mp hl
 ·have:=Vu d.a h1 d.κ h2
  exact⟨this.1,(QX (d.a,d.κ)).1,this.2.1⟩
 ·exact(h4 l hl).1
theorem Hx.ok.nam{d:Hx}(h:d.ok):∀v∈d.c,DB v:=by
 intro v hv
 refine Ak (List.mem_map.mp hv) λl hl Ar=>?_;obtain rfl:=Ar
 exact(h.2.2.2 l hl).2
theorem Hx.ok.clen{d:Hx}(h:d.ok):d.c.length<=2:=by
 unfold Hx.c
 rw[List.length_map];exact h.2.2.1
theorem Hx.ok.strs{d:Hx}(h:d.ok):∀l∈d.hr.row,PyData.strOk (S l)=true:=by
 intro l hl
 obtain rfl|hl:=List.mem_cons.mp hl
 ·exact(Vu d.a h.1 d.κ h.2.1).2.2
 ·exact(h.2.2.2 l hl).2.1
theorem L4(h:∀v∈xs,Cb n v=true):Cb (n+1) (.list xs)=true:=List.all_eq_true.mpr h
theorem bD{L:List Str}(h:∀s∈L,PyData.strOk s=true):Cb (n+2) (.list (L.map .str))=true:=by
 refine L4 λv hv=>?_
 refine Ak (List.mem_map.mp hv) λs hs Ar=>?_;obtain rfl:=Ar
 exact h s hs
theorem PI{L:List α}{f:α->Str}{g:α->Int}(h:∀p∈L,PyData.strOk (f p)=true):Cb (n+3) (.list (L.map λp=>.tup [.str (f p),.int (g p)]))=true:=by
 refine L4 λv hv=>?_
 refine Ak (List.mem_map.mp hv) λs hs Ar=>?_;obtain rfl:=Ar
 show(PyData.strOk (f s)&&(true&&true))=true
 rw[h s hs];rfl
theorem ZT{L:List α}{f:α->Str}{g:α->Int}(h:∀p∈L,PyData.strOk (f p)=true):Cb (n+3) (.list (L.map λp=>.tup [.int (g p),.str (f p)]))=true:=by
 refine L4 λv hv=>?_
 refine Ak (List.mem_map.mp hv) λs hs Ar=>?_;obtain rfl:=Ar
 show(true&&(PyData.strOk (f s)&&true))=true
 rw[h s hs];rfl
theorem Vf(L:List Nat):Cb (n+2) (.list (Ae L))=true:=by
 refine L4 λv hv=>?_
 refine Ak (List.mem_map.mp hv) λs hs Ar=>?_;obtain rfl:=Ar
 rfl
theorem cT(m:Nat):Cb (n+2) (.list (Dv m))=true:=by
 refine L4 λv hv=>?_
 rw[(List.mem_replicate.mp hv).2];rfl
theorem HU{v:AV}(h:Cb 5 v=true)(h1:v.int?=none)(h2:v.str?=none):Du .NotEq v v=some false:=by
 show(IL v v).map (!·)=_
 rw[eq_self h h1 h2];rfl
theorem fK(h:∀x∈hs,∀l∈x.row,PyData.strOk (S l)=true):∀(l:Int),∀p∈BW l hs,PyData.strOk p.1=true:=by
 induction hs with
 |nil=>intro l p hp;cases hp
 |cons x r ih=>
  intro l p hp
  obtain hp|hp:=List.mem_append.mp hp
  ·refine Ak (List.mem_map.mp hp) λw hw Ar=>?_;obtain rfl:=Ar
   exact h x List.mem_cons_self w hw
  ·exact ih (λy hy=>h y (List.mem_cons_of_mem _ hy)) _ p hp
noncomputable def C6:PySem.Expr:=match GJ (at' AX.body 3) with
 |.BoolOp _ [.Compare _ _ [c] _,_] _=>c
 |_=>default
noncomputable def U6(H:AV)(sc:Scope)(ρ:R):Prop:=ρ=⟨[("hours",H)],Ay sc⟩∨(∃k,ρ=⟨[("hours",H),("k",k)],Ay sc⟩)∨∃k w,ρ=⟨[("hours",H),("k",k),("word",w)],Ay sc⟩
theorem aQ{x:Hr}(h:hs[k]? =some x)(hl:hs.length<100):El (.list (hs.map Hr.v)) (.int k)=some x.v:=DW (by rw[List.getElem?_map,h];rfl) (by have:=(List.getElem?_eq_some_iff.mp h).1;exact Ac 0x16c186a0531116a011116a642301 Aa this hl)
noncomputable def LZ(hs:List Hr):AV->List AV
 |.int k=>((hs.getD k.toNat ⟨0,[],0⟩).row.map λw=>(S w,k+1)).map BE
 |_=>[]
theorem Xc{x:Hr}(h:hs[k]? =some x):LZ hs (.int k)=(Be x.row).map λv=>AV.tup [v,.int ((k:Int)+1)]:=by
 show((hs.getD ((k:Int)).toNat ⟨0,[],0⟩).row.map _).map BE=_
 rw[Int.toNat_natCast,List.getD_eq_getElem?_getD,h]
 unfold Be
 rw[List.map_map,List.map_map]
 rfl
theorem cY:∀(hs pre:List Hr),((List.range' pre.length hs.length).map λ(k:Nat)=>AV.int k).flatMap (LZ (pre++hs))=(BW ((pre.length:Int)+1) hs).map BE:=by
 intro Al
 induction Al with
 |nil=>
  intro _
  exact rfl
 |cons x r ih=>
  intro pre
  have ih:=ih (pre++[x])
  rw[List.append_assoc,List.length_append,List.length_singleton] at ih
  rw[List.length_cons,List.range'_succ,List.map_cons,List.flatMap_cons,show BW ((pre.length:Int)+1) (x::r)=x.row.map (λw=>(S w,(pre.length:Int)+1))++BW ((pre.length:Int)+1+1) r from rfl,List.map_append]
  have h1:LZ (pre++x::r) (.int (pre.length:Nat))=(x.row.map λw=>(S w,(pre.length:Int)+1)).map BE:=by
   rw[Xc (x:=x) (by rw[List.getElem?_append_right (Nat.le_refl _),Nat.sub_self];rfl)]
   unfold Be
   rw[List.map_map,List.map_map]
   rfl
  rw[h1,show((pre.length:Int)+1+1)=((pre.length+1:Nat):Int)+1 by exact Int.le_antisymm (Ah 0x10c412741201412412701 Aa) (Ah 0x10c412412701412741201 Aa),<-ih]
  rfl
theorem T8(h:∀x∈hs,x.row.length<=3):∀l:Int,(BW l hs).length<=3*hs.length:=by
 induction hs with
 |nil=>intro l;exact Nat.le_refl _
 |cons x r ih=>
  intro l
  have h1:=ih (λy hy=>h y (List.mem_cons_of_mem _ hy)) (l+1)
  have h2:=h x List.mem_cons_self
  show(x.row.map _++BW (l+1) r).length<=_
  rw[List.length_append,List.length_map,List.length_cons];exact Ap 0x14c315412114012114a322114a3151101 Aa h2 h1
theorem Vt(hl:hs.length=6):CK.flatMap (LZ hs)=(BW 1 hs).map BE:=by
 have:=cY hs []
 rw[hl] at this
 exact this
theorem Zc(x:Hr):El x.v (.int 1)=some (.list (Be x.row)):=rfl
theorem cE{V:Nat}(hl:hs.length=6)(hr:∀x∈hs,x.row.length<=3):∃ρ',B6 (compTurn (E V (n+6)) (A5 AX.sc (Aj C6)) (A9 C6 0).target (A9 C6 0).ifs (BF (E V (n+6)) (A5 AX.sc (Aj C6)) (Bn C6) [A9 C6 1])) CK [] ⟨[("hours",.list (hs.map Hr.v))],Ay (Aj C6)⟩=some ((BW 1 hs).map BE,ρ')/\U6 (.list (hs.map Hr.v)) (Aj C6) ρ':=by
 refine Ak (ML (body:=compTurn (E V (n+6)) (A5 AX.sc (Aj C6)) (A9 C6 0).target (A9 C6 0).ifs (BF (E V (n+6)) (A5 AX.sc (Aj C6)) (Bn C6) [A9 C6 1])) (At:=U6 (.list (hs.map Hr.v)) (Aj C6)) (f:=LZ hs) (its:=CK) (acc:=[]) (ρ:=⟨[("hours",.list (hs.map Hr.v))],Ay (Aj C6)⟩)
  (by
   intro v hv acc ρ ha a
   obtain⟨k,hk,rfl⟩:=List.mem_map.mp hv
   have hk:=List.mem_range.mp hk
   obtain⟨x,hx⟩:∃x,hs[k]? =some x:=⟨_,List.getElem?_eq_getElem (by exact Ac 0x16c011116a621115b6201 Aa hk hl)⟩
   have lx:=hr x (List.mem_of_getElem? hx)
   obtain⟨ρ1,Cp,a1⟩:∃ρ1,BS (A5 AX.sc (Aj C6)) (A9 C6 0).target (.int k) ρ=some ρ1/\(ρ1=⟨[("hours",.list (hs.map Hr.v)),("k",.int k)],Ay (Aj C6)⟩∨∃w,ρ1=⟨[("hours",.list (hs.map Hr.v)),("k",.int k),("word",w)],Ay (Aj C6)⟩):=by
    obtain rfl|⟨_,rfl⟩|⟨_,_,rfl⟩:=a
    ·exact⟨_,rfl,.inl rfl⟩
    ·exact⟨_,rfl,.inl rfl⟩
    ·exact⟨_,rfl,.inr ⟨_,rfl⟩⟩
   obtain⟨AD,e2,a2⟩:=NB (r:=E V (n+6)) (sc:=A5 AX.sc (Aj C6)) (t:=(A9 C6 1).target) (ifs:=[]) (elt:=Bn C6) (At:= λρ1=>ρ1=⟨[("hours",.list (hs.map Hr.v)),("k",.int k)],Ay (Aj C6)⟩∨∃w,ρ1=⟨[("hours",.list (hs.map Hr.v)),("k",.int k),("word",w)],Ay (Aj C6)⟩) (f:= λv=>some (.tup [v,.int ((k:Int)+1)])) (its:=Be x.row) (acc:=acc) (ρ:=ρ1)
    (by
     intro v hv ρ a
     obtain⟨s,ET,rfl⟩:=List.mem_map.mp hv
     refine⟨⟨[("hours",.list (hs.map Hr.v)),("k",.int k),("word",.str (S s))],Ay (Aj C6)⟩,by obtain rfl|⟨_,rfl⟩:=a<;>rfl,.inr ⟨_,rfl⟩,.inr ⟨rfl,_,rfl,rfl⟩⟩) (by rw[IM];exact Ac 0x16c17318534110114a321116a15f905301 Aa lx ha) a1
   rw[List.filterMap_eq_map'] at e2
   refine⟨AD,Ng Cp (Ab (x:=(Be x.row,ρ1)) ?_ (e2.trans ?_)),?_⟩
   ·obtain rfl|⟨_,rfl⟩:=a1<;>exact Cr (BM rfl (BM rfl rfl rfl (aQ hx (by exact Ah 0x16c64230114b6201 Aa hl)) rfl rfl) rfl (Zc x) rfl rfl) rfl rfl
   ·rw[Xc hx]
   ·obtain rfl|⟨_,rfl⟩:=a2
    ·exact .inr (.inl ⟨_,rfl⟩)
    ·exact .inr (.inr ⟨_,_,rfl⟩)) (by rw[Vt hl,List.length_map,List.length_nil];have:=T8 hr 1;exact Ac 0x16c15f90534110214a315011134b6201 Aa this hl) (.inl rfl)) λρ' h1 h2=>?_
 rw[Vt hl] at h1
 exact⟨ρ',h1,h2⟩
noncomputable def Jl(k:Int):AV->Option AV
 |.tup [.str s,.int l]=>if l=k then some (.str s) else none
 |_=>none
theorem QW(k l:Int)(row:List (List Nat)):((row.map λw=>(S w,l)).map BE).filterMap (Jl k)=if l=k then Be row else[]:=by
 induction row with
 |nil=>split<;>rfl
 |cons w r ih=>
  rw[List.map_cons,List.map_cons]
  by_cases h:l=k
  ·rw[if_pos h] at ih ⊢
   rw[List.filterMap_cons_some (show Jl k (BE (S w,l))=some (AV.str (S w)) from if_pos h),ih];rfl
  ·rw[if_neg h] at ih ⊢
   rw[List.filterMap_cons_none (show Jl k (BE (S w,l))=none from if_neg h),ih]
theorem dX(k:Int):∀(hs:List Hr) (l:Int),k<l->((BW l hs).map BE).filterMap (Jl k)=[]:=by
 intro Al
 induction Al with
 |nil=>
  intro _ _
  exact rfl
 |cons x r ih=>
  intro l h
  show((x.row.map (λw=>(S w,l))++BW (l+1) r).map BE).filterMap (Jl k)=[]
  rw[List.map_append,List.filterMap_append,QW,if_neg (by exact λBk=>Wx 0x12a011110b1101 Aa h Bk),ih (l+1) (by exact Wx 0x12c412110112a1101 Aa h)];rfl
theorem Ut:∀(hs:List Hr) (l:Int) (j:Nat) (x:Hr),hs[j]? =some x->((BW l hs).map BE).filterMap (Jl (l+j))=Be x.row
 |[],_,_,_,h=>by simp at h
 |y::r,l,0,x,h=>by
  (revert h;refine As λc0=>?_;subst c0)
  show((y.row.map (λw=>(S w,l))++BW (l+1) r).map BE).filterMap _=_
  rw[List.map_append,List.filterMap_append,QW,if_pos (by simp),dX _ r (l+1) (by simp;exact EX 0x12c4120101 Aa),List.append_nil]
 |y::r,l,j+1,x,h=>by
  show((y.row.map (λw=>(S w,l))++BW (l+1) r).map BE).filterMap _=_
  rw[List.map_append,List.filterMap_append,QW,if_neg (by exact λBk=>BO 0x11b47412010101 Aa Bk),show l+((j+1:Nat):Int)=l+1+j by exact Int.le_antisymm (BO 0x10c470141201474120101 Aa) (BO 0x10c474120101470141201 Aa),Ut r (l+1) j x (by simpa using h)];rfl
noncomputable def EE:PySem.Expr:=DV (at' AX.body 4)
noncomputable def F8:PySem.Expr:=Bn EE
noncomputable def Kx(T:AV)(tl:List (Str×AV)):R:=⟨("told",T)::tl,Ay (Aj EE)⟩
noncomputable def Ic(k:Nat)(tl:List (Str×AV)):R:=⟨("k",.int k)::tl,Ay (Aj F8)⟩
theorem YK{V:Nat}{x:Hr}(hl:(BW 1 hs).length<1000)(hx:hs[k]? =some x):∃ρ',B6 (compTurn (E V (n+4)) (A5 (A5 AX.sc (Aj EE)) (Aj F8)) (A9 F8 0).target (A9 F8 0).ifs (BF (E V (n+4)) (A5 (A5 AX.sc (Aj EE)) (Aj F8)) (Bn F8) [])) ((BW 1 hs).map BE) [] (Ic k [])=some (Be x.row,ρ')/\∃tl,ρ'=Ic k tl:=by
 refine Ak (IT (r:=E V (n+4)) (sc:=A5 (A5 AX.sc (Aj EE)) (Aj F8)) (t:=(A9 F8 0).target) (ifs:=(A9 F8 0).ifs) (elt:=Bn F8) (At:= λρ=>ρ=Ic k []∨∃a b,ρ=Ic k [("word",a),("line",b)]) (f:=Jl (1+(k:Int))) (its:=(BW 1 hs).map BE) (ρ:=Ic k [])
  (by
   intro v hv ρ a
   obtain⟨⟨s,l⟩,ET,rfl⟩:=List.mem_map.mp hv
   refine⟨Ic k [("word",.str s),("line",.int l)],by obtain rfl|⟨_,_,rfl⟩:=a<;>rfl,.inr ⟨_,_,rfl⟩,?_⟩
   have t:(E V (n+4)).t (A5 (A5 AX.sc (Aj EE)) (Aj F8)) ((A9 F8 0).ifs.headD default) (Ic k [("word",.str s),("line",.int l)])=some (l==(k:Int)+1,Ic k [("word",.str s),("line",.int l)]):=rfl
   by_cases c:l=1+(k:Int)
   ·exact .inr ⟨HN (Br (by rw[beq_iff_eq];exact Int.le_antisymm (BO 0x10c4127010110b47011201 Aa c) (BO 0x10c0141270111b47011201 Aa c)) t),_,rfl,if_pos c⟩
   ·exact .inl ⟨HN (Br (beq_false_of_ne (by exact(Int.lt_or_gt_of_ne c).elim (λA6=> λBk=>BO 0x12a4701120111b41270101 Aa A6 Bk) (λA6=> λBk=>BO 0x12a0147011210b41270101 Aa A6 Bk))) t),if_neg c⟩) (by rw[List.length_map];exact Ah 0x16c15f90530116a3e83301 Aa hl) (.inl rfl)) λρ' h1 h2=>?_
 rw[Ut hs 1 k x hx] at h1
 exact⟨ρ',h1,by obtain rfl|⟨_,_,rfl⟩:=h2<;>exact⟨_,rfl⟩⟩
noncomputable def Mh(hs:List Hr):AV->AV
 |.int k=>.list (Be (hs.getD k.toNat ⟨0,[],0⟩).row)
 |_=>.none
theorem mQ{x:Hr}(h:hs[k]? =some x):Mh hs (.int k)=.list (Be x.row):=by
 show AV.list (Be (hs.getD ((k:Int)).toNat ⟨0,[],0⟩).row)=_
 rw[Int.toNat_natCast,List.getD_eq_getElem?_getD,h];rfl
theorem lJ{V:Nat}(hl:(BW 1 hs).length<1000)(h6:hs.length=6):∃ρ',B6 (compTurn (E V (n+6)) (A5 AX.sc (Aj EE)) (A9 EE 0).target (A9 EE 0).ifs (BF (E V (n+6)) (A5 AX.sc (Aj EE)) (Bn EE) [])) CK [] (Kx (.list ((BW 1 hs).map BE)) [])=some (CK.map (Mh hs),ρ')/\∃tl,ρ'=Kx (.list ((BW 1 hs).map BE)) tl:=by
 refine Ak (Ez (r:=E V (n+6)) (sc:=A5 AX.sc (Aj EE)) (t:=(A9 EE 0).target) (elt:=Bn EE) (At:= λρ=>ρ=Kx (.list ((BW 1 hs).map BE)) []∨∃a,ρ=Kx (.list ((BW 1 hs).map BE)) [("k",a)]) (f:=Mh hs) (its:=CK) (ρ:=Kx (.list ((BW 1 hs).map BE)) [])
  (by
   intro v hv ρ a
   obtain⟨k,hk,rfl⟩:=List.mem_map.mp hv
   have hk:=List.mem_range.mp hk
   obtain⟨x,hx⟩:∃x,hs[k]? =some x:=⟨_,List.getElem?_eq_getElem (by exact Ac 0x16c011116a621115b6201 Aa hk h6)⟩
   obtain⟨ρ',e,tl,rfl⟩:=YK (V:=V) (n:=n+1) hl hx
   refine⟨Kx (.list ((BW 1 hs).map BE)) [("k",.int k)],by obtain rfl|⟨_,rfl⟩:=a<;>rfl,.inr ⟨_,rfl⟩,?_⟩
   rw[mQ hx]
   exact Ed (Cg rfl (Cr rfl rfl rfl) e rfl)) (by decide+kernel) (.inl rfl)) λρ' h1 h2=>?_
 exact⟨ρ',h1,by obtain rfl|⟨_,rfl⟩:=h2<;>exact⟨_,rfl⟩⟩
noncomputable def Fc:PySem.Expr:=DV (at' AX.body 5)
noncomputable def EV:PySem.Expr:=DV (at' AX.body 6)
noncomputable def Fp:PySem.Expr:=DV (at' AX.body 7)
theorem eX{V:Nat}(hl:ds.length<100):∃ρ',B6 (compTurn (E V (n+4)) (A5 AX.sc (Aj Fc)) (A9 Fc 0).target (A9 Fc 0).ifs (BF (E V (n+4)) (A5 AX.sc (Aj Fc)) (Bn Fc) [])) (ds.map λd=>.list (Be d.hr.row)) [] ⟨[],Ay (Aj Fc)⟩=some (ED (ds.map Hx.w),ρ'):=by
 refine Ak (Ez (r:=E V (n+4)) (sc:=A5 AX.sc (Aj Fc)) (t:=(A9 Fc 0).target) (elt:=Bn Fc) (At:= λρ=>ρ=⟨[],Ay (Aj Fc)⟩∨∃a,ρ=⟨[("row",a)],Ay (Aj Fc)⟩) (f:= λv=>match v with|.list (a::_)=>a|_=>.none) (its:=ds.map λd=>.list (Be d.hr.row)) (ρ:=⟨[],Ay (Aj Fc)⟩)
  (by
   intro v hv ρ a
   obtain⟨d,hd,rfl⟩:=List.mem_map.mp hv
   exact⟨⟨[("row",.list (Be d.hr.row))],Ay (Aj Fc)⟩,by obtain rfl|⟨_,rfl⟩:=a<;>rfl,.inr ⟨_,rfl⟩,BM rfl rfl rfl rfl rfl rfl⟩) (by rw[List.length_map];exact Ah 0x16c15f90530116a642301 Aa hl) (.inl rfl)) λρ' h1 _=>?_
 refine⟨ρ',h1.trans ?_⟩
 unfold ED
 rw[List.map_map,List.map_map]
 rfl
theorem eD(d:Hx):Be d.come=d.c.map .str:=by
 unfold Be Hx.c
 rw[List.map_map];rfl
theorem ZX{V:Nat}(hl:ds.length<100)(hc:∀d∈ds,d.come.length<100):∃ρ',B6 (compTurn (E V (n+4)) (A5 AX.sc (Aj EV)) (A9 EV 0).target (A9 EV 0).ifs (BF (E V (n+4)) (A5 AX.sc (Aj EV)) (Bn EV) [])) (ds.map λd=>.list (Be d.hr.row)) [] ⟨[],Ay (Aj EV)⟩=some ((ds.map Hx.c).map (λc=>.list (c.map .str)),ρ'):=by
 refine Ak (Ez (r:=E V (n+4)) (sc:=A5 AX.sc (Aj EV)) (t:=(A9 EV 0).target) (elt:=Bn EV) (At:= λρ=>ρ=⟨[],Ay (Aj EV)⟩∨∃a,ρ=⟨[("row",a)],Ay (Aj EV)⟩) (f:= λv=>match v with|.list (_::r)=>.list r|_=>.none) (its:=ds.map λd=>.list (Be d.hr.row)) (ρ:=⟨[],Ay (Aj EV)⟩)
  (by
   intro v hv ρ a
   obtain⟨d,hd,rfl⟩:=List.mem_map.mp hv
   have:=hc d hd
   exact⟨⟨[("row",.list (Be d.hr.row))],Ay (Aj EV)⟩,by obtain rfl|⟨_,rfl⟩:=a<;>rfl,.inr ⟨_,rfl⟩,Dm rfl rfl rfl (Hk (by rw[IM];show d.come.length+1<=_;exact Ah 0x14c186a0534120116a642301 Aa this) (Pj _ 1))⟩) (by rw[List.length_map];exact Ah 0x16c15f90530116a642301 Aa hl) (.inl rfl)) λρ' h1 _=>?_
 refine⟨ρ',h1.trans ?_⟩
 rw[List.map_map,List.map_map]
 congr 2
 refine List.map_congr_left λd _=>?_
 show AV.list (Be d.come)=.list (d.c.map .str)
 rw[eD]
theorem m9{V:Nat}(hl:ds.length<100):∃ρ',B6 (compTurn (E V (n+4)) (A5 AX.sc (Aj Fp)) (A9 Fp 0).target (A9 Fp 0).ifs (BF (E V (n+4)) (A5 AX.sc (Aj Fp)) (Bn Fp) [])) ((ds.map Hx.hr).map Hr.v) [] ⟨[],Ay (Aj Fp)⟩=some (Ae (Bb (ds.map Hx.w)),ρ'):=by
 refine Ak (Ez (r:=E V (n+4)) (sc:=A5 AX.sc (Aj Fp)) (t:=(A9 Fp 0).target) (elt:=Bn Fp) (At:= λρ=>ρ=⟨[],Ay (Aj Fp)⟩∨∃a,ρ=⟨[("hour",a)],Ay (Aj Fp)⟩) (f:= λv=>match v with|.tup (a::_)=>a|_=>.none) (its:=(ds.map Hx.hr).map Hr.v) (ρ:=⟨[],Ay (Aj Fp)⟩)
  (by
   intro v hv ρ a
   obtain⟨x,hx,rfl⟩:=List.mem_map.mp hv
   exact⟨⟨[("hour",x.v)],Ay (Aj Fp)⟩,by obtain rfl|⟨_,rfl⟩:=a<;>rfl,.inr ⟨_,rfl⟩,BM rfl rfl rfl rfl rfl rfl⟩) (by rw[List.length_map,List.length_map];exact Ah 0x16c15f90530116a642301 Aa hl) (.inl rfl)) λρ' h1 _=>?_
 refine⟨ρ',h1.trans ?_⟩
 unfold Bb Ae
 rw[List.map_map,List.map_map,List.map_map,List.map_map]
 rfl
noncomputable def Tm:PySem.Expr->PySem.Expr
 |.Call _ [a] _ _=>a
 |_=>default
noncomputable def DC:PySem.Expr:=DV (at' AX.body 9)
noncomputable def Fm:PySem.Expr:=Tm (Bn DC)
theorem iE{V:Nat}(hl:cs.length<100)(hc:∀c∈cs,c.length<1000):∃ρ',B6 (compTurn (E V (n+4)) (A5 (A5 AX.sc (Aj DC)) (Aj Fm)) (A9 Fm 0).target (A9 Fm 0).ifs (BF (E V (n+4)) (A5 (A5 AX.sc (Aj DC)) (Aj Fm)) (Bn Fm) [])) (cs.map λc=>.list (c.map .str)) [] ⟨[],Ay (Aj Fm)⟩=some (Ae (cs.map List.length),ρ'):=by
 refine Ak (Ez (r:=E V (n+4)) (sc:=A5 (A5 AX.sc (Aj DC)) (Aj Fm)) (t:=(A9 Fm 0).target) (elt:=Bn Fm) (At:= λρ=>ρ=⟨[],Ay (Aj Fm)⟩∨∃a,ρ=⟨[("row",a)],Ay (Aj Fm)⟩) (f:= λv=>match v with|.list r=>.int r.length|_=>.none) (its:=cs.map λc=>.list (c.map .str)) (ρ:=⟨[],Ay (Aj Fm)⟩)
  (by
   intro v hv ρ a
   obtain⟨c,hd,rfl⟩:=List.mem_map.mp hv
   have:=hc c hd
   exact⟨⟨[("row",.list (c.map .str))],Ay (Aj Fm)⟩,by obtain rfl|⟨_,rfl⟩:=a<;>rfl,.inr ⟨_,rfl⟩,Dn rfl rfl rfl (by rw[List.length_map];show _<=100000;exact Ah 0x14c186a0530116a3e83301 Aa this) rfl rfl⟩) (by rw[List.length_map];exact Ah 0x16c15f90530116a642301 Aa hl) (.inl rfl)) λρ' h1 _=>?_
 refine⟨ρ',h1.trans ?_⟩
 unfold Ae
 rw[List.map_map,List.map_map]
 congr 2
 refine List.map_congr_left λc _=>?_
 show AV.int ((c.map AV.str).length:Nat)=.int (c.length:Nat)
 rw[List.length_map]
noncomputable def Bo(cs:List (List Str)):List Nat:=(List.range 7).map λk=>((cs.take k).map List.length).sum
noncomputable def Hq:List AV:=Ae (List.range 7)
noncomputable def Nl(f:Nat->Nat):AV->AV
 |.int k=>.int (f k.toNat:Nat)
 |_=>.none
theorem QS(L:List Nat)(f:Nat->Nat):(Ae L).map (Nl f)=Ae (L.map f):=by
 unfold Ae
 rw[List.map_map,List.map_map];rfl
theorem iJ{V:Nat}(hl:cs.length<100)(hc:∀c∈cs,c.length<1000):∃ρ',B6 (compTurn (E V (n+7)) (A5 AX.sc (Aj DC)) (A9 DC 0).target (A9 DC 0).ifs (BF (E V (n+7)) (A5 AX.sc (Aj DC)) (Bn DC) [])) Hq [] ⟨[("come",Bw cs)],Ay (Aj DC)⟩=some (Ae (Bo cs),ρ')/\∃tl,ρ'=⟨("come",Bw cs)::tl,Ay (Aj DC)⟩:=by
 refine Ak (Ez (r:=E V (n+7)) (sc:=A5 AX.sc (Aj DC)) (t:=(A9 DC 0).target) (elt:=Bn DC) (At:= λρ=>ρ=⟨[("come",Bw cs)],Ay (Aj DC)⟩∨∃a,ρ=⟨[("come",Bw cs),("k",a)],Ay (Aj DC)⟩) (f:=Nl λk=>((cs.take k).map List.length).sum) (its:=Hq) (ρ:=⟨[("come",Bw cs)],Ay (Aj DC)⟩)
  (by
   intro v hv ρ a
   obtain⟨k,hk,rfl⟩:=List.mem_map.mp hv
   obtain⟨ρ',e⟩:=iE (V:=V) (n:=n+1) (cs:=cs.take k) (by rw[List.length_take];exact Ac 0x16c64230116a64231114a1101 Aa hl (Nat.min_le_right _ _)) (λc h=>hc c (List.mem_of_mem_take h))
   have sl:D5 (.list (cs.map λc=>AV.list (c.map .str))) none (some (k:Int)) none=some (.list ((cs.take k).map λc=>AV.list (c.map .str))):=Hk (by rw[List.length_map];exact Ah 0x14c186a0530116a642301 Aa hl) (by rw[Rn,List.map_take])
   exact⟨⟨[("come",Bw cs),("k",.int k)],Ay (Aj DC)⟩,by obtain rfl|⟨_,rfl⟩:=a<;>rfl,.inr ⟨_,rfl⟩,Ow rfl (Ed (Cg rfl (Cr (Dm rfl rfl rfl sl) rfl rfl) e rfl)) rfl rfl⟩) (by decide+kernel) (.inl rfl)) λρ' h1 h2=>?_
 rw[show Hq=Ae (List.range 7) from rfl,QS] at h1
 exact⟨ρ',h1,by obtain rfl|⟨_,rfl⟩:=h2<;>exact⟨_,rfl⟩⟩
noncomputable def D0:PySem.Expr:=DV (at' AX.body 11)
noncomputable def D1:PySem.Expr:=Tm (Bn D0)
noncomputable def Hy(κs op L:List Nat):List Nat:=(L.filter λh=> !decide (h∈op)).map λh=>κs.getD h 0%2
noncomputable def Ul(κs op:List Nat):AV->Option AV
 |.int h=>if h.toNat∈op then none else some (.int (κs.getD h.toNat 0%2:Nat))
 |_=>none
theorem YW(κs op:List Nat):∀L:List Nat,(Ae L).filterMap (Ul κs op)=Ae (Hy κs op L):=by
 intro Al
 induction Al with
 |nil=>
  exact rfl
 |cons h L zih=>
  have ih:=zih
  unfold Hy at ih ⊢
  by_cases c:h∈op
  ·rw[List.filter_cons_of_neg (by simp[c]),<-ih]
   exact List.filterMap_cons_none (if_pos c)
  ·rw[List.filter_cons_of_pos (by simp[c]),List.map_cons,show Ae ((κs.getD h 0%2)::(L.filter λh=> !decide (h∈op)).map λh=>κs.getD h 0%2)=.int (κs.getD h 0%2:Nat)::Ae ((L.filter λh=> !decide (h∈op)).map λh=>κs.getD h 0%2) from rfl,<-ih]
   exact List.filterMap_cons_some (if_neg c)
noncomputable def pB(κs op:List Nat)(tl:List (Str×AV))(sc:Scope):R:=⟨("kinds",.list (Ae κs))::("opening",.list (Ae op))::tl,Ay sc⟩
theorem Zr{V:Nat}(h6:κs.length=6)(hL:L.length<100)(h:∀k∈L,k<6):∃ρ',B6 (compTurn (E V (n+5)) (A5 (A5 AX.sc (Aj D0)) (Aj D1)) (A9 D1 0).target (A9 D1 0).ifs (BF (E V (n+5)) (A5 (A5 AX.sc (Aj D0)) (Aj D1)) (Bn D1) [])) (Ae L) [] (pB κs op [] (Aj D1))=some (Ae (Hy κs op L),ρ')/\∃tl,ρ'=pB κs op tl (Aj D1):=by
 refine Ak (IT (r:=E V (n+5)) (sc:=A5 (A5 AX.sc (Aj D0)) (Aj D1)) (t:=(A9 D1 0).target) (ifs:=(A9 D1 0).ifs) (elt:=Bn D1) (At:= λρ=>ρ=pB κs op [] (Aj D1)∨∃a,ρ=pB κs op [("h",a)] (Aj D1)) (f:=Ul κs op) (its:=Ae L) (ρ:=pB κs op [] (Aj D1))
  (by
   intro v hv ρ a
   obtain⟨k,hk,rfl⟩:=List.mem_map.mp hv
   have hk:=h k hk
   refine⟨pB κs op [("h",.int k)] (Aj D1),by obtain rfl|⟨_,rfl⟩:=a<;>rfl,.inr ⟨_,rfl⟩,?_⟩
   have t:(E V (n+5)).t (A5 (A5 AX.sc (Aj D0)) (Aj D1)) ((A9 D1 0).ifs.headD default) (pB κs op [("h",.int k)] (Aj D1))=some (!decide (k∈op),pB κs op [("h",.int k)] (Aj D1)):=B1 rfl rfl rfl (Q3 k op) rfl
   have m:CG .Mod (.int (κs.getD k 0:Nat)) (.int 2)=some (.int (κs.getD k 0%2:Nat)):=by
    show some (AV.int (((κs.getD k 0:Nat):Int).fmod 2))=_
    rw[Int.fmod_eq_emod_of_nonneg _ (by decide)];rfl
   by_cases c:k∈op
   ·exact .inl ⟨HN (Br (by rw[decide_eq_true c];rfl) t),if_pos c⟩
   ·exact .inr ⟨HN (Br (by rw[decide_eq_false c];rfl) t),_,Bt (BM rfl rfl rfl (HJ (Ph h6 hk) (by exact Ah 0x16c64230114b6201 Aa h6)) rfl rfl) rfl m,if_neg c⟩) (by rw[C5];exact Ah 0x16c15f90530116a642301 Aa hL) (.inl rfl)) λρ' h1 h2=>?_
 rw[YW] at h1
 exact⟨ρ',h1,by obtain rfl|⟨_,rfl⟩:=h2<;>exact⟨_,rfl⟩⟩
noncomputable def Ie(k:Nat):List Nat:=(List.range (6 - k)).map (k+·)
noncomputable def pairsOf(κs op:List Nat):List Nat:=(List.range 7).map λk=>(Hy κs op (Ie k)).sum
theorem YH:∀{k:Nat},k<7->On [.int k,.int 6]=some (Ae (Ie k)):=by
 intro zk zh
 refine cL (k:=zk) ?_ ?_ ?_ ?_ ?_ ?_ ?_ zh<;>(exact rfl)
theorem gV{V:Nat}(h6:κs.length=6):∃ρ',B6 (compTurn (E V (n+8)) (A5 AX.sc (Aj D0)) (A9 D0 0).target (A9 D0 0).ifs (BF (E V (n+8)) (A5 AX.sc (Aj D0)) (Bn D0) [])) Hq [] (pB κs op [] (Aj D0))=some (Ae (pairsOf κs op),ρ')/\∃tl,ρ'=pB κs op tl (Aj D0):=by
 refine Ak (Ez (r:=E V (n+8)) (sc:=A5 AX.sc (Aj D0)) (t:=(A9 D0 0).target) (elt:=Bn D0) (At:= λρ=>ρ=pB κs op [] (Aj D0)∨∃a,ρ=pB κs op [("k",a)] (Aj D0)) (f:=Nl λk=>(Hy κs op (Ie k)).sum) (its:=Hq) (ρ:=pB κs op [] (Aj D0))
  (by
   intro v hv ρ a
   obtain⟨k,hk,rfl⟩:=List.mem_map.mp hv
   have hk:=List.mem_range.mp hk
   obtain⟨ρ',e,tl,rfl⟩:=Zr (V:=V) (n:=n+1) (κs:=κs) (op:=op) (L:=Ie k) h6 (by unfold Ie;rw[List.length_map,List.length_range];exact Ah 0x16c64230114a6201 Aa (Nat.sub_le _ _)) (λj hj=>by
    obtain⟨i,hi,rfl⟩:=List.mem_map.mp hj
    have:=List.mem_range.mp hi
    exact Ap 0x16c624211116a012114b6241101 Aa this (Nat.sub_add_cancel (Ah 0x14c620116a7201 Aa hk)))
   exact⟨pB κs op [("k",.int k)] (Aj D0),by obtain rfl|⟨_,rfl⟩:=a<;>rfl,.inr ⟨_,rfl⟩,Ow rfl (Ed (Cg rfl (Ab rfl (Ab (YH hk) rfl)) e rfl)) rfl rfl⟩) (by decide+kernel) (.inl rfl)) λρ' h1 h2=>?_
 rw[show Hq=Ae (List.range 7) from rfl,QS] at h1
 exact⟨ρ',h1,by obtain rfl|⟨_,rfl⟩:=h2<;>exact⟨_,rfl⟩⟩
noncomputable def H4:PySem.Expr:=match GJ (at' AX.body 12) with
 |.Compare _ _ [.Call _ [a] _ _] _=>a
 |_=>default
noncomputable def bB(A P:List Nat)(tl:List (Str×AV)):R:=⟨("ahead",.list (Ae A))::("pairs",.list (Ae P))::tl,Ay (Aj H4)⟩
noncomputable def IU(A P:List Nat):List Nat:=(List.range 7).map λk=>A.getD k 0+P.getD k 0
theorem W4(Ce:κ.length=7)(hk:k<7):κ[k]? =some (κ.getD k 0):=by
 rw[List.getD_eq_getElem?_getD,List.getElem?_eq_getElem (by exact Ac 0x16c011116a721115b7201 Aa hk Ce)];rfl
theorem bY{V:Nat}{P:List Nat}(hA:A.length=7)(hP:P.length=7):∃ρ',B6 (compTurn (E V (n+5)) (A5 AX.sc (Aj H4)) (A9 H4 0).target (A9 H4 0).ifs (BF (E V (n+5)) (A5 AX.sc (Aj H4)) (Bn H4) [])) Hq [] (bB A P [])=some (Ae (IU A P),ρ')/\∃tl,ρ'=bB A P tl:=by
 refine Ak (Ez (r:=E V (n+5)) (sc:=A5 AX.sc (Aj H4)) (t:=(A9 H4 0).target) (elt:=Bn H4) (At:= λρ=>ρ=bB A P []∨∃a,ρ=bB A P [("k",a)]) (f:=Nl λk=>A.getD k 0+P.getD k 0) (its:=Hq) (ρ:=bB A P [])
  (by
   intro v hv ρ a
   obtain⟨k,hk,rfl⟩:=List.mem_map.mp hv
   have hk:=List.mem_range.mp hk
   exact⟨bB A P [("k",.int k)],by obtain rfl|⟨_,rfl⟩:=a<;>rfl,.inr ⟨_,rfl⟩,Bt (BM rfl rfl rfl (HJ (W4 hA hk) (by exact Ah 0x16c64230114b7201 Aa hA)) rfl rfl) (BM rfl rfl rfl (HJ (W4 hP hk) (by exact Ah 0x16c64230114b7201 Aa hP)) rfl rfl) rfl⟩) (by decide+kernel) (.inl rfl)) λρ' h1 h2=>?_
 rw[show Hq=Ae (List.range 7) from rfl,QS] at h1
 exact⟨ρ',h1,by obtain rfl|⟨_,rfl⟩:=h2<;>exact⟨_,rfl⟩⟩
noncomputable def NX:PySem.Expr->PySem.Expr
 |.Compare _ _ [c] _=>c
 |_=>default
noncomputable def Vx:PySem.Expr->PySem.Expr
 |.BoolOp _ [a,_] _=>a
 |_=>default
noncomputable def ZR:PySem.Expr->PySem.Expr
 |.BoolOp _ [_,a] _=>a
 |_=>default
noncomputable def DE:PySem.Expr:=NX (GJ (at' AX.body 19))
noncomputable def HG:Stmt:=at' AX.body 20
noncomputable def E4:PySem.Expr:=NX (Vx (GJ (at' (AB HG) 0)))
noncomputable def Ew:PySem.Expr:=NX (ZR (GJ (at' (AB HG) 0)))
noncomputable def Fa:PySem.Expr:=NX (Vx (GJ (at' (AB HG) 1)))
noncomputable def Gl(cs:List (List Str))(tl:List (Str×AV)):R:=⟨("come",Bw cs)::tl,Ay (Aj DE)⟩
noncomputable def TG(cs:List (List Str)):AV->List AV
 |.int k=>(AK k.toNat (cs.getD k.toNat [])).map BA
 |_=>[]
noncomputable def E1(cs:List (List Str)):List (Nat×Str):=(List.range 6).flatMap λk=>AK k (cs.getD k [])
theorem TE(cs:List (List Str)):∀L:List Nat,(Ae L).flatMap (TG cs)=(L.flatMap λk=>AK k (cs.getD k [])).map BA:=by
 intro Al
 induction Al with
 |nil=>
  exact rfl
 |cons k L zih=>
  rw[List.flatMap_cons,List.map_append,<-zih];rfl
theorem jW(hk:k<cs.length)(hl:cs.length<100):El (Bw cs) (.int k)=some (.list ((cs.getD k []).map .str)):=
 DW (by rw[List.getElem?_map,List.getD_eq_getElem?_getD,List.getElem?_eq_getElem hk];rfl) (by exact Ac 0x16c186a0530116a64231116a1101 Aa hl hk)
theorem fP{V:Nat}(hl:cs.length=6)(hr:∀c∈cs,c.length<=2):∃ρ',B6 (compTurn (E V (n+6)) (A5 AX.sc (Aj DE)) (A9 DE 0).target (A9 DE 0).ifs (BF (E V (n+6)) (A5 AX.sc (Aj DE)) (Bn DE) [A9 DE 1])) CK [] (Gl cs [])=some ((E1 cs).map BA,ρ')/\∃tl,ρ'=Gl cs tl:=by
 have hc:∀k,(cs.getD k []).length<=2:=by
  intro k
  rw[List.getD_eq_getElem?_getD]
  cases h:cs[k]? with
  |none=>simp
  |some c=>exact hr c (List.mem_of_getElem? h)
 refine Ak (ML (body:=compTurn (E V (n+6)) (A5 AX.sc (Aj DE)) (A9 DE 0).target (A9 DE 0).ifs (BF (E V (n+6)) (A5 AX.sc (Aj DE)) (Bn DE) [A9 DE 1])) (At:= λρ=>ρ=Gl cs []∨(∃a,ρ=Gl cs [("hour",a)])∨∃a b,ρ=Gl cs [("hour",a),("name",b)]) (f:=TG cs) (its:=CK) (acc:=[]) (ρ:=Gl cs [])
  (by
   intro v hv acc ρ ha a
   obtain⟨k,hk,rfl⟩:=List.mem_map.mp hv
   have hk:=List.mem_range.mp hk
   obtain⟨ρ1,Cp,a1⟩:∃ρ1,BS (A5 AX.sc (Aj DE)) (A9 DE 0).target (.int k) ρ=some ρ1/\(ρ1=Gl cs [("hour",.int k)]∨∃w,ρ1=Gl cs [("hour",.int k),("name",w)]):=by
    obtain rfl|⟨_,rfl⟩|⟨_,_,rfl⟩:=a
    ·exact⟨_,rfl,.inl rfl⟩
    ·exact⟨_,rfl,.inl rfl⟩
    ·exact⟨_,rfl,.inr ⟨_,rfl⟩⟩
   have lc:=hc k
   obtain⟨AD,e2,a2⟩:=NB (r:=E V (n+6)) (sc:=A5 AX.sc (Aj DE)) (t:=(A9 DE 1).target) (ifs:=[]) (elt:=Bn DE) (At:= λρ1=>ρ1=Gl cs [("hour",.int k)]∨∃w,ρ1=Gl cs [("hour",.int k),("name",w)]) (f:= λv=>some (.tup [.int k,v])) (its:=(cs.getD k []).map .str) (acc:=acc) (ρ:=ρ1)
    (by
     intro v hv ρ a
     obtain⟨s,ET,rfl⟩:=List.mem_map.mp hv
     exact⟨Gl cs [("hour",.int k),("name",.str s)],by obtain rfl|⟨_,rfl⟩:=a<;>rfl,.inr ⟨_,rfl⟩,.inr ⟨rfl,_,rfl,rfl⟩⟩) (by rw[List.length_map];exact Ac 0x16c17318534110114a221116a15f905301 Aa lc ha) a1
   rw[List.filterMap_eq_map'] at e2
   refine⟨AD,Ng Cp (Ab (x:=((cs.getD k []).map AV.str,ρ1)) ?_ (e2.trans ?_)),?_⟩
   ·obtain rfl|⟨_,rfl⟩:=a1<;>exact Cr (BM rfl rfl rfl (jW (by exact Ac 0x16c011116a621115b6201 Aa hk hl) (by exact Ah 0x16c64230114b6201 Aa hl)) rfl rfl) rfl rfl
   ·show _=some (acc++(AK k (cs.getD k [])).map BA,AD)
    unfold AK
    rw[List.map_map,List.map_map]
    rfl
   ·obtain rfl|⟨_,rfl⟩:=a2
    ·exact .inr (.inl ⟨_,rfl⟩)
    ·exact .inr (.inr ⟨_,_,rfl⟩)) (by
   show _+((Ae (List.range 6)).flatMap _).length<_
   rw[TE,List.length_map,List.length_nil]
   have:∀L:List Nat,(L.flatMap λk=>AK k (cs.getD k [])).length<=2*L.length:=by
    intro L
    induction L with
    |nil=>exact Nat.le_refl _
    |cons k L ih=>
     have:=hc k
     rw[List.flatMap_cons,List.length_append,EM,List.length_cons];exact Ap 0x14c215412114012114a222114a2151101 Aa this ih
   have:=this (List.range 6)
   rw[List.length_range] at this
   exact Ah 0x16c15f90534010214a2156201 Aa this) (.inl rfl)) λρ' h1 h2=>?_
 rw[show CK=Ae (List.range 6) from rfl,TE] at h1
 exact⟨ρ',h1,by obtain rfl|⟨_,rfl⟩|⟨_,_,rfl⟩:=h2<;>exact⟨_,rfl⟩⟩
theorem VP(f:Nat->Bool):AA (λk=>decide (k∈AA f))=AA f:=by
 unfold AA
 refine List.filter_congr λk hk=>?_
 rw[Bool.eq_iff_iff,decide_eq_true_iff,List.mem_filter]
 exact⟨λh=>h.2,λh=>⟨hk,h⟩⟩
theorem Uo(k:Nat)(L:List Nat):Du .In (.int k) (.list (Ae L))=some (decide (k∈L)):=VK k L
theorem eS{V:Nat}{f:Nat->Bool}:∃ρ',B6 (compTurn (E V (n+5)) (A5 AX.sc (Aj E4)) (A9 E4 0).target (A9 E4 0).ifs (BF (E V (n+5)) (A5 AX.sc (Aj E4)) (Bn E4) [])) CK [] ⟨[("one",.list (Ae (AA f)))],Ay (Aj E4)⟩=some (Ae (AA f),ρ')/\∃tl,ρ'=⟨("one",.list (Ae (AA f)))::tl,Ay (Aj E4)⟩:=by
 refine Ak (IT (r:=E V (n+5)) (sc:=A5 AX.sc (Aj E4)) (t:=(A9 E4 0).target) (ifs:=(A9 E4 0).ifs) (elt:=Bn E4) (At:= λρ=>ρ=⟨[("one",.list (Ae (AA f)))],Ay (Aj E4)⟩∨∃a,ρ=⟨[("one",.list (Ae (AA f))),("k",a)],Ay (Aj E4)⟩) (f:=keep λk=>decide (k∈AA f)) (its:=CK) (ρ:=⟨[("one",.list (Ae (AA f)))],Ay (Aj E4)⟩)
  (by
   intro v hv ρ a
   obtain⟨k,hk,rfl⟩:=List.mem_map.mp hv
   exact⟨⟨[("one",.list (Ae (AA f))),("k",.int k)],Ay (Aj E4)⟩,by obtain rfl|⟨_,rfl⟩:=a<;>rfl,.inr ⟨_,rfl⟩,Oc (b:=decide (k∈AA f)) rfl (HN (B1 rfl rfl rfl (Uo k _) rfl)) rfl⟩) (by decide+kernel) (.inl rfl)) λρ' h1 h2=>?_
 rw[show CK=Ae (List.range 6) from rfl,MO,show(List.range 6).filter (λk=>decide (k∈AA f))=AA f from VP f] at h1
 exact⟨ρ',h1,by obtain rfl|⟨_,rfl⟩:=h2<;>exact⟨_,rfl⟩⟩
theorem o3{V:Nat}{f:Nat->Bool}:∃ρ',B6 (compTurn (E V (n+5)) (A5 AX.sc (Aj Ew)) (A9 Ew 0).target (A9 Ew 0).ifs (BF (E V (n+5)) (A5 AX.sc (Aj Ew)) (Bn Ew) [])) CK [] ⟨[("two",.list (Ae (AA f)))],Ay (Aj Ew)⟩=some (Ae (AA f),ρ')/\∃tl,ρ'=⟨("two",.list (Ae (AA f)))::tl,Ay (Aj Ew)⟩:=by
 refine Ak (IT (r:=E V (n+5)) (sc:=A5 AX.sc (Aj Ew)) (t:=(A9 Ew 0).target) (ifs:=(A9 Ew 0).ifs) (elt:=Bn Ew) (At:= λρ=>ρ=⟨[("two",.list (Ae (AA f)))],Ay (Aj Ew)⟩∨∃a,ρ=⟨[("two",.list (Ae (AA f))),("k",a)],Ay (Aj Ew)⟩) (f:=keep λk=>decide (k∈AA f)) (its:=CK) (ρ:=⟨[("two",.list (Ae (AA f)))],Ay (Aj Ew)⟩)
  (by
   intro v hv ρ a
   obtain⟨k,hk,rfl⟩:=List.mem_map.mp hv
   exact⟨⟨[("two",.list (Ae (AA f))),("k",.int k)],Ay (Aj Ew)⟩,by obtain rfl|⟨_,rfl⟩:=a<;>rfl,.inr ⟨_,rfl⟩,Oc (b:=decide (k∈AA f)) rfl (HN (B1 rfl rfl rfl (Uo k _) rfl)) rfl⟩) (by decide+kernel) (.inl rfl)) λρ' h1 h2=>?_
 rw[show CK=Ae (List.range 6) from rfl,MO,show(List.range 6).filter (λk=>decide (k∈AA f))=AA f from VP f] at h1
 exact⟨ρ',h1,by obtain rfl|⟨_,rfl⟩:=h2<;>exact⟨_,rfl⟩⟩
theorem dK{V:Nat}(hm:m<1000):∃ρ',B6 (compTurn (E V (n+3)) (A5 AX.sc (Aj Fa)) (A9 Fa 0).target (A9 Fa 0).ifs (BF (E V (n+3)) (A5 AX.sc (Aj Fa)) (Bn Fa) [])) (Dv m) [] ⟨[],Ay (Aj Fa)⟩=some (Dv m,ρ'):=by
 refine Ak (Ez (r:=E V (n+3)) (sc:=A5 AX.sc (Aj Fa)) (t:=(A9 Fa 0).target) (elt:=Bn Fa) (At:= λρ=>ρ=⟨[],Ay (Aj Fa)⟩∨∃a,ρ=⟨[("k",a)],Ay (Aj Fa)⟩) (f:= λ_=>.none) (its:=Dv m) (ρ:=⟨[],Ay (Aj Fa)⟩)
  (by
   intro v hv ρ a
   obtain rfl:=(List.mem_replicate.mp hv).2
   exact⟨⟨[("k",.none)],Ay (Aj Fa)⟩,by obtain rfl|⟨_,rfl⟩:=a<;>rfl,.inr ⟨_,rfl⟩,rfl⟩) (by rw[QI];exact Ah 0x16c15f90530116a3e83301 Aa hm) (.inl rfl)) λρ' h1 _=>?_
 refine⟨ρ',h1.trans ?_⟩
 unfold Dv
 rw[List.map_replicate]
noncomputable def lN:List Str:=["script","hours","lexer","told","rows","signs","come","kinds","closing","opening","ahead","due","left","pairs","text","whole","queue","turned","one","two","gave"]
noncomputable def lst(vs:List AV):R:=⟨lN.zip vs,λ_=>false⟩
noncomputable abbrev lS(V n k:Nat)(ρ:R):=AQ (E V (n+40)) tp V AX.sc (at' AX.body k) ρ
section
variable {V:Nat} {sv signs cl op q t v:AV}
theorem j8(e:BL (E V (n+39)) tp "_law_hours" [.list xs] []=some (v,ρ')):lS V n 0 (lst [.list xs])=some (.next,lst [.list xs,v]):=
 BK (Dp (Bp rfl rfl) rfl e rfl rfl rfl rfl rfl rfl) rfl rfl
theorem Y0{q' p:Pos}(hm:Ih e=false)(hg:Ou sc e=some (("_law_lexer":Str),[a]))(ho:BI a=true)(h:r.e sc a ρ=some (.str (S l),ρ1))(hn:(ρ1.get x).isNone=true)(hl:l.length<=100000)(hb:Cy sc x (lx 1 [] l) ρ1=some AD):AQ r top W sc (.Assign [.Name x q'] e p) ρ=some (.next,AD):=by
 refine LO (Ab (x:=.Name x q') rfl ?_)
 show GA r sc x e ρ=_
 unfold GA
 rw[hm,if_neg Bool.false_ne_true,hg]
 have e1:(AV.lex 1 [] (signsOf (S l)))=lx 1 [] l:=by
  unfold signsOf lx sg
  rw[Hm]
 refine(if_pos rfl).trans (Ab (x:=a) rfl (Ab (AF ho) (Ab h (Ab (x:=S l) rfl (Ab (AF (decide_eq_true ⟨hn,by rw[CA];exact hl⟩)) ?_)))))
 rw[e1];exact hb
theorem eG(e:BL (E V (n+39)) tp "_law_text" [.list xs] []=some (.str (S l),ρ'))(hl:l.length<=100000):lS V n 1 (lst [sv,.list xs])=some (.next,lst [sv,.list xs,lx 1 [] l]):=
 Y0 rfl rfl rfl (Dp (Bp rfl rfl) rfl e rfl rfl rfl rfl rfl rfl) rfl hl rfl
theorem iM{l':List Nat}{i':Int}(h1:BZ (E V (n+39)) GF [("lexer",lx i [] l)]=some (.list ys,ρ'))(h2:ρ'.get "lexer"=some (lx i' [] l')):lS V n 2 (lst [sv,H,lx i [] l])=some (.next,lst [sv,H,lx i' [] l',.list ys]):=
 BK (IH rfl rfl IS rfl rfl (DD rfl h1 h2 rfl rfl rfl) rfl rfl rfl rfl) rfl rfl
theorem pF(hl:hs.length=6)(hr:∀x∈hs,x.row.length<=3)(pQ:Cb 5 (.list ((BW 1 hs).map BE))=true):
 lS V n 3 (lst [sv,.list (hs.map Hr.v),lx 7 [] l,.list ((BW 1 hs).map BE)])=some (.next,lst [sv,.list (hs.map Hr.v),lx 7 [] l,.list ((BW 1 hs).map BE)]):=by
 refine Ak (cE (V:=V) (n:=n+31) hl hr) λρ' e _=>?_
 exact AZ (Lj (B1 rfl rfl (Ed (Cg rfl rfl e rfl)) (HU pQ rfl rfl) rfl) rfl) rfl
theorem Y3(h6:hs.length=6)(hl:(BW 1 hs).length<1000):lS V n 4 (lst [sv,H,lx',.list ((BW 1 hs).map BE)])=some (.next,lst [sv,H,lx',.list ((BW 1 hs).map BE),.list (CK.map (Mh hs))]):=by
 refine Ak (lJ (V:=V) (n:=n+34) hl h6) λρ' e _=>?_
 exact as_list (Cg rfl rfl e rfl) rfl rfl rfl
theorem fL(hl:ds.length<100):lS V n 5 (lst [sv,H,lx',told,.list (ds.map λd=>.list (Be d.hr.row))])=some (.next,lst [sv,H,lx',told,.list (ds.map λd=>.list (Be d.hr.row)),.list (ED (ds.map Hx.w))]):=by
 obtain⟨ρ',e⟩:=eX (V:=V) (n:=n+36) hl
 exact as_list (Cg rfl (Cr rfl rfl rfl) e rfl) rfl rfl rfl
theorem cJ(hl:ds.length<100)(hc:∀d∈ds,d.come.length<100):lS V n 6 (lst [sv,H,lx',told,.list (ds.map λd=>.list (Be d.hr.row)),signs])=some (.next,lst [sv,H,lx',told,.list (ds.map λd=>.list (Be d.hr.row)),signs,Bw (ds.map Hx.c)]):=by
 obtain⟨ρ',e⟩:=ZX (V:=V) (n:=n+36) hl hc
 exact as_list (Cg rfl (Cr rfl rfl rfl) e rfl) rfl rfl rfl
theorem jK(hl:ds.length<100):lS V n 7 (lst [sv,.list ((ds.map Hx.hr).map Hr.v),lx',told,rows,signs,come])=some (.next,lst [sv,.list ((ds.map Hx.hr).map Hr.v),lx',told,rows,signs,come,.list (Ae (Bb (ds.map Hx.w)))]):=by
 obtain⟨ρ',e⟩:=m9 (V:=V) (n:=n+36) hl
 exact as_list (Cg rfl (Cr rfl rfl rfl) e rfl) rfl rfl rfl
theorem P8{w:AV}{p:Pos}(ht:Eg a=none)(hc:(G3 e).isSome=true)(h:r.e sc e ρ=some (w,ρ1))(hb:BS sc a w ρ1=some AD):AQ r top W sc (.Assign [a] e p) ρ=some (.next,AD):=by
 refine LO (Ab (x:=a) rfl ?_)
 rw[ht]
 exact Ab (AF hc) (Ab h hb)
theorem YG(e:BL (E V (n+39)) tp "_law_lone" [.list xs,.list ys] []=some (.tup [cl,op],ρ')):lS V n 8 (lst [sv,H,lx',told,rows,.list xs,come,.list ys])=some (.next,lst [sv,H,lx',told,rows,.list xs,come,.list ys,cl,op]):=
 P8 rfl rfl (Dp (B7 rfl (Bp rfl rfl) rfl) rfl e rfl rfl rfl rfl rfl rfl) rfl
theorem d7(hl:cs.length<100)(hc:∀c∈cs,c.length<1000):lS V n 9 (lst [sv,H,lx',told,rows,signs,Bw cs,kinds,cl,op])=some (.next,lst [sv,H,lx',told,rows,signs,Bw cs,kinds,cl,op,.list (Ae (Bo cs))]):=by
 refine Ak (iJ (V:=V) (n:=n+33) hl hc) λρ' e _=>?_
 exact as_list (Cg rfl rfl e rfl) rfl rfl rfl
theorem iB(e:BL (E V (n+39)) tp "_law_due" [.list xs,.list ys,.list zs] []=some (.tup [due,left],ρ')):lS V n 10 (lst [sv,H,lx',told,rows,signs,.list ys,.list xs,cl,op,.list zs])=some (.next,lst [sv,H,lx',told,rows,signs,.list ys,.list xs,cl,op,.list zs,due,left]):=
 P8 rfl rfl (Dp (B7 rfl (B7 rfl (Bp rfl rfl) rfl) rfl) rfl e rfl rfl rfl rfl rfl rfl) rfl
theorem aG{os:List Nat}(h6:κs.length=6):lS V n 11 (lst [sv,H,lx',told,rows,signs,come,.list (Ae κs),cl,.list (Ae os),ahead,due,left])=some (.next,lst [sv,H,lx',told,rows,signs,come,.list (Ae κs),cl,.list (Ae os),ahead,due,left,.list (Ae (pairsOf κs os))]):=by
 refine Ak (gV (V:=V) (n:=n+32) (κs:=κs) (op:=os) h6) λρ' e _=>?_
 exact as_list (Cg rfl rfl e rfl) rfl rfl rfl
theorem ne_int{a b:Nat}(h:a=b):Du .NotEq (.int a) (.int b)=some false:=by
 subst h
 show some (!((a:Int)==(a:Int)))=_
 rw[beq_self_eq_true];rfl
theorem nR{P:List Nat}(hA:A.length=7)(hP:P.length=7)(hD:D.length=k)(hk:k<1000)(h:k=Hi (IU A P)):lS V n 12 (lst [sv,H,lx',told,rows,signs,come,kinds,cl,op,.list (Ae A),.list D,left,.list (Ae P)])=some (.next,lst [sv,H,lx',told,rows,signs,come,kinds,cl,op,.list (Ae A),.list D,left,.list (Ae P)]):=by
 refine Ak (bY (V:=V) (n:=n+32) hA hP) λρ' e _=>?_
 have ne:IU A P≠[]:=by
  intro h
  have:=congrArg List.length h
  unfold IU at this
  rw[List.length_map,List.length_range] at this
  cases this
 exact AZ (B1 rfl (Dn rfl rfl (by exact congrArg some hD) (by show _<=100000;exact Ah 0x14c186a0530116a3e83301 Aa hk) rfl rfl) (PQ ne rfl (Ed (Cg rfl rfl e rfl)) rfl rfl) (ne_int h) rfl) rfl
end
section
variable {V:Nat} {sv signs cl op q t v:AV}
theorem pC(hl:ws.length<100):lS V n 13 (lst [sv,H,lx',told,rows,.list (ED ws),come,kinds,cl,op,ahead,due,left,pairs])=some (.next,lst [sv,H,lx',told,rows,.list (ED ws),come,kinds,cl,op,ahead,due,left,pairs,.str (S (raw (Bu ws)))]):=by
 have h:=Ls ws
 rw[<-Ve]
 exact BK (Lc rfl rfl (V3 ws) (by rw[TC];show _<=100000;exact Ac 0x14c186a0531114a815011186a642301 Aa h.1 hl) rfl rfl) rfl rfl
theorem bK(c:Nat):∀κs:List Nat,(κs.map λ(k:Nat)=>(k:Int)).count (c:Int)=κs.count c:=by
 intro Al
 induction Al with
 |nil=>
  exact rfl
 |cons a r zih=>
  rw[List.map_cons,List.count_cons,List.count_cons,zih]
  congr 1
  by_cases h:a=c
  ·subst h;simp
  ·rw[beq_false_of_ne h,beq_false_of_ne (by exact(Nat.lt_or_gt_of_ne h).elim (λA6=> λBk=>Ac 0x16a110111b711701 Aa A6 Bk) (λA6=> λBk=>Ac 0x16a011110b711701 Aa A6 Bk))]
theorem VF{q' p:Pos}{c:Nat}(hx:Ca sc x ρ=some (.list (Ae κs)))(ha:BY (A1 top W n) sc [a] ρ=some ([.int c],ρ))(hs:(([]:List Keyword).isEmpty&&ap.endLine==p.line&&decide (([a]:List PySem.Expr).length<=5))=true):
 (A1 top W (n+1)).e sc (.Call (.Attribute (.Name x q') "count" ap) [a] [] p) ρ=some (.int (κs.count c:Nat),ρ):=by
 show Dd (A1 top W n) top sc (.Attribute (.Name x q') "count" ap) [a] [] p ρ=_
 refine Ab (x:=((.Name x q',"count",ap):PySem.Expr×Str×Pos)) rfl (Ab (AF hs) ?_)
 show I3 (A1 top W n) top sc x "count" [a] ρ=_
 refine Ab hx ?_
 refine Ab (x:=()) rfl ?_
 refine(if_neg (by decide)).trans (Ab ha (Ab (x:=.int (κs.count c:Nat)) ?_ rfl))
 refine Ab (x:=()) rfl (Ab (x:=.int c) rfl (Ab (x:=(c:Int)) rfl (Ab (Qq κs) ?_)))
 rw[bK]
theorem fZ{RH:Str}{d:Int}(e:BL (E V (n+38)) tp "_law_lack" [.str RH,.int d] []=some (.int (k:Nat),ρ'))(hd:(κs.count 1:Int) - κs.count 2=d)(hk:Dh.length=k)(hl:k<1000):
 lS V n 14 (lst [sv,H,lx',told,rows,signs,come,.list (Ae κs),.list (Ae Dh),op,ahead,due,left,pairs,.str RH])=some (.next,lst [sv,H,lx',told,rows,signs,come,.list (Ae κs),.list (Ae Dh),op,ahead,due,left,pairs,.str RH]):=by
 subst hd
 exact AZ (B1 rfl (Dp (B7 rfl (Bp (Bt (VF rfl rfl rfl) (VF rfl rfl rfl) rfl) rfl) rfl) rfl e rfl rfl rfl rfl rfl rfl) (Dn rfl rfl (by exact congrArg some (C5 Dh)) (by show _<=100000;exact Ac 0x14c186a0530116a3e8331114b1101 Aa hl hk) rfl rfl) (ne_int hk.symm) rfl) rfl
theorem nB{os:List Nat}(h1:Dh.length<=6)(h2:os.length<=6)(h3:l.length<1000):lS V n 15 (lst [sv,H,lx',told,rows,signs,come,kinds,.list (Ae Dh),.list (Ae os),ahead,due,left,pairs,.str (S l)])=some (.next,lst [sv,H,lx',told,rows,signs,come,kinds,.list (Ae Dh),.list (Ae os),ahead,due,left,pairs,.str (S l),.str (S (List.replicate Dh.length 40++l++List.replicate os.length 41))]):=by
 have a1:CG .Add (.str (S (List.replicate ((Dh.length:Nat):Int).toNat 40))) (.str (S l))=some (.str (S (List.replicate Dh.length 40++l))):=F4 (by simp only[List.length_replicate,Int.toNat_natCast];exact Ac 0x14c186a0534110116a3e8331114a6201 Aa h3 h1)
 have a2:CG .Add (.str (S (List.replicate Dh.length 40++l))) (.str (S (List.replicate ((os.length:Nat):Int).toNat 41)))=some (.str (S (List.replicate Dh.length 40++l++List.replicate os.length 41))):=F4 (by simp only[List.length_append,List.length_replicate,Int.toNat_natCast];exact Ap 0x14c186a0534114210116a3e8332114a621114a6201 Aa h3 h2 h1)
 exact BK (Bt (Bt (Bt rfl (Dn rfl rfl (by exact congrArg some (C5 Dh)) (by show _<=100000;exact Ah 0x14c186a0530114a6201 Aa h1) rfl rfl) (JK MJ (by exact Ah 0x10c70193e833 Aa) (by exact Ah 0x10c3e83370114a6201 Aa h1))) rfl a1) (Bt rfl (Dn rfl rfl (by exact congrArg some (C5 os)) (by show _<=100000;exact Ah 0x14c186a0530114a6201 Aa h2) rfl rfl) (JK Nr (by exact Ah 0x10c70193e833 Aa) (by exact Ah 0x10c3e83370114a6201 Aa h2))) a2) rfl rfl
theorem aV(hl:l.length<1000)(e1:BL (E V (n+37)) tp "_check_parenthesis" [.str (S l)] []=some (.bool true,ρ'))(e2:BL (E V (n+37)) tp "_check_parenthesis" [.str (S (l++[41]))] []=some (.bool false,AD)):
 lS V n 16 (lst [sv,H,lx',told,rows,signs,come,kinds,cl,op,ahead,due,left,pairs,text,.str (S l)])=some (.next,lst [sv,H,lx',told,rows,signs,come,kinds,cl,op,ahead,due,left,pairs,text,.str (S l)]):=by
 have a1:CG .Add (.str (S l)) (.str (S [41]))=some (.str (S (l++[41]))):=F4 (by rw[List.length_singleton];exact Ah 0x14c186a0534120116a3e83301 Aa hl)
 exact AZ (Lj (B1 rfl (Dp (Bp rfl rfl) rfl e1 rfl rfl rfl rfl rfl rfl) rfl rfl rfl) (B1 rfl (Dp (Bp (Bt rfl rfl a1) rfl) rfl e2 rfl rfl rfl rfl rfl rfl) rfl rfl rfl)) rfl
theorem mM(e:BL (E V (n+39)) tp "_law_queue" [.list xs] []=some (.tup [q,t],ρ')):lS V n 17 (lst [sv,H,lx',told,rows,signs,.list xs,kinds,cl,op,ahead,due,left,pairs,text,whole])=some (.next,lst [sv,H,lx',told,rows,signs,.list xs,kinds,cl,op,ahead,due,left,pairs,text,whole,q,t]):=
 P8 rfl rfl (Dp (Bp rfl rfl) rfl e rfl rfl rfl rfl rfl rfl) rfl
theorem YO(hl:l.length<1000)(e1:BL (E V (n+37)) tp "_check_parenthesis" [.str (S (40::l))] []=some (.bool false,ρ'))(hq:Cb 5 (.list xs)=true):
 lS V n 18 (lst [sv,H,lx',told,rows,signs,come,kinds,cl,op,ahead,due,left,pairs,text,.str (S l),.list xs,.list xs])=some (.next,lst [sv,H,lx',told,rows,signs,come,kinds,cl,op,ahead,due,left,pairs,text,.str (S l),.list xs,.list xs]):=by
 have a1:CG .Add (.str (S [40])) (.str (S l))=some (.str (S (40::l))):=F4 (a:=[40]) (by rw[List.length_singleton];exact Ah 0x14c186a0534011216a3e83301 Aa hl)
 exact AZ (Lj (B1 rfl (Dp (Bp (Bt rfl rfl a1) rfl) rfl e1 rfl rfl rfl rfl rfl rfl) rfl rfl rfl) (B1 rfl rfl rfl (HU hq rfl rfl) rfl)) rfl
theorem Zw(hl:cs.length=6)(hr:∀c∈cs,c.length<=2)(hq:Cb 5 (.list ((E1 cs).map BA))=true):
 lS V n 19 (lst [sv,H,lx',told,rows,signs,Bw cs,kinds,cl,op,ahead,due,left,pairs,text,whole,.list ((E1 cs).map BA),t])=some (.next,lst [sv,H,lx',told,rows,signs,Bw cs,kinds,cl,op,ahead,due,left,pairs,text,whole,.list ((E1 cs).map BA),t]):=by
 refine Ak (fP (V:=V) (n:=n+32) hl hr) λρ' e _=>?_
 exact AZ (B1 rfl rfl (Ed (Cg rfl rfl e rfl)) (HU hq rfl rfl) rfl) rfl
noncomputable def No(tl:List AV):Prop:=tl=[]∨∃a b c,tl=[a,b,c]
theorem oY{s:(Nat->Bool)×(Nat->Bool)×Nat}{tl:List AV}(hm:s.2.2<1000)(z:No tl)(JH:Cb 5 (.list D)=true)(JI:Cb 5 (.tup [.list D,.list L'])=true)
 (e1:BL (E V (n+36)) tp "_law_by_hours" [.list (Ae (AA s.1)),.list (Ae (AA s.2.1)),.list xs] []=some (.list D,ρ')) (e2:BL (E V (n+37)) tp "_law_by_lines" [.list (Ae (AA s.1)),.list (Ae (AA s.2.1)),.list ys] []=some (.tup [.list D,.list L'],AD)):
 forTurn (E V (n+40)) AX.sc (BD HG) (AB HG) (Eu s) (lst ([sv,H,lx',told,rows,signs,.list ys,kinds,cl,op,ahead,.list D,.list L',pairs,text,whole,.list xs,t]++tl))=
  some (.next,lst [sv,H,lx',told,rows,signs,.list ys,kinds,cl,op,ahead,.list D,.list L',pairs,text,whole,.list xs,t,.list (Ae (AA s.1)),.list (Ae (AA s.2.1)),.list (Dv s.2.2)]):=by
 obtain⟨f,g,m⟩:=s
 dsimp only at hm e1 e2 ⊢
 refine Ak (eS (V:=V) (n:=n+31) (f:=f)) λHf e3 _=>?_
 refine Ak (o3 (V:=V) (n:=n+31) (f:=g)) λOM e4 _=>?_
 obtain⟨ρ5,e5⟩:=dK (V:=V) (n:=n+33) (m:=m) hm
 have Cp:BS AX.sc (BD HG) (Eu (f,g,m)) (lst ([sv,H,lx',told,rows,signs,.list ys,kinds,cl,op,ahead,.list D,.list L',pairs,text,whole,.list xs,t]++tl))=some (lst [sv,H,lx',told,rows,signs,.list ys,kinds,cl,op,ahead,.list D,.list L',pairs,text,whole,.list xs,t,.list (Ae (AA f)),.list (Ae (AA g)),.list (Dv m)]):=by
  obtain rfl|⟨_,_,_,rfl⟩:=z<;>rfl
 refine turn Cp (Aq (AZ (Lj (B1 rfl rfl (Ed (Cg rfl rfl e3 rfl)) (HU (Vf _) rfl rfl) rfl) (B1 rfl rfl (Ed (Cg rfl rfl e4 rfl)) (HU (Vf _) rfl rfl) rfl)) rfl)
  (Aq (AZ (Lj (B1 rfl rfl (Ed (Cg rfl (Cr rfl rfl rfl) e5 rfl)) (HU (cT _) rfl rfl) rfl) (B1 rfl (Dp (B7 rfl (B7 rfl (Bp rfl rfl) rfl) rfl) rfl e1 rfl rfl rfl rfl rfl rfl) rfl (HU JH rfl rfl) rfl)) rfl)
   (A3 (AZ (B1 rfl (Dp (B7 rfl (B7 rfl (Bp rfl rfl) rfl) rfl) rfl e2 rfl rfl rfl rfl rfl rfl) (G9 (B7 rfl (Bp rfl rfl) rfl) (by show 2<=100000;exact AE 0x14c186a05322 Aa)) (HU JI rfl rfl) rfl) rfl))))
end
structure T4 (κs:List Nat) (c0 c1 c2 c3 c4 c5:List Str):Prop where
 due:(CQ κs (Bo [c0,c1,c2,c3,c4,c5]) [c0,c1,c2,c3,c4,c5].flatten).length=Hi (IU (Bo [c0,c1,c2,c3,c4,c5]) (pairsOf κs (Bh κs).2))
 nd:((Bh κs).1++(Bh κs).2).Nodup
 lt:∀k∈(Bh κs).1++(Bh κs).2,k<6
 le:((Bh κs).1++(Bh κs).2).length<=6
 hours:∀s∈Jd κs ((Bh κs).1++(Bh κs).2),s.2.2<1000/\Ee (E1 [c0,c1,c2,c3,c4,c5]) (AA s.1) (AA s.2.1) []=CQ κs (Bo [c0,c1,c2,c3,c4,c5]) [c0,c1,c2,c3,c4,c5].flatten
 lines:∀s∈Jd κs ((Bh κs).1++(Bh κs).2),(Two.run ((AA s.1).map λ(k:Nat)=>(k:Int)) ((AA s.2.1).map λ(k:Nat)=>(k:Int)) c0 c1 c2 c3 c4 c5).gone=CQ κs (Bo [c0,c1,c2,c3,c4,c5]) [c0,c1,c2,c3,c4,c5].flatten/\
  (Two.run ((AA s.1).map λ(k:Nat)=>(k:Int)) ((AA s.2.1).map λ(k:Nat)=>(k:Int)) c0 c1 c2 c3 c4 c5).p2++(Two.run ((AA s.1).map λ(k:Nat)=>(k:Int)) ((AA s.2.1).map λ(k:Nat)=>(k:Int)) c0 c1 c2 c3 c4 c5).p1=[c0,c1,c2,c3,c4,c5].flatten.drop (CQ κs (Bo [c0,c1,c2,c3,c4,c5]) [c0,c1,c2,c3,c4,c5].flatten).length
theorem UO(c0 c1 c2 c3 c4 c5:List Str):E1 [c0,c1,c2,c3,c4,c5]=AK 0 c0++AK 1 c1++AK 2 c2++AK 3 c3++AK 4 c4++AK 5 c5:=by
 show AK 0 c0++(AK 1 c1++(AK 2 c2++(AK 3 c3++(AK 4 c4++(AK 5 c5++[])))))=_
 simp only[List.append_assoc,List.append_nil]
section
variable {V:Nat} {sv signs cl op q t v:AV}
theorem jA(JH:Cb 5 (.list D)=true)(JI:Cb 5 (.tup [.list D,.list L'])=true):∀{ss:List ((Nat->Bool)×(Nat->Bool)×Nat)} {tl:List AV},(∀s∈ss,s.2.2<1000/\(∃ρ',BL (E V (n+36)) tp "_law_by_hours" [.list (Ae (AA s.1)),.list (Ae (AA s.2.1)),.list xs] []=some (.list D,ρ'))/\∃AD,BL (E V (n+37)) tp "_law_by_lines" [.list (Ae (AA s.1)),.list (Ae (AA s.2.1)),.list ys] []=some (.tup [.list D,.list L'],AD))->No tl->
 ∃AJ,No AJ/\BP (forTurn (E V (n+40)) AX.sc (BD HG) (AB HG)) (ss.map Eu) (lst ([sv,H,lx',told,rows,signs,.list ys,kinds,cl,op,ahead,.list D,.list L',pairs,text,whole,.list xs,t]++tl))=
  some (.next,lst ([sv,H,lx',told,rows,signs,.list ys,kinds,cl,op,ahead,.list D,.list L',pairs,text,whole,.list xs,t]++AJ)):=by
 intro Al
 induction Al with
 |nil=>
  intro tl _ z
  exact⟨tl,z,rfl⟩
 |cons s ss zih=>
  intro tl h z
  refine Pq (h s List.mem_cons_self) λhm Bc _ e2=>?_;obtain⟨_,e1⟩:=Bc
  refine Ak (zih (tl:=[.list (Ae (AA s.1)),.list (Ae (AA s.2.1)),.list (Dv s.2.2)]) (λx hx=>h x (List.mem_cons_of_mem _ hx)) (.inr ⟨_,_,_,rfl⟩)) λAJ z' e=>?_
  exact⟨AJ,z',BH (oY hm z JH JI e1 e2) e⟩
theorem Zp{os:List Nat}(JH:Cb 5 (.list D)=true)(JI:Cb 5 (.tup [.list D,.list L'])=true)(lo:Dh.length+os.length<=100)(es:BL (E V (n+39)) tp "_law_shares" [.list kl,.list (Ae (Dh++os))] []=some (.list (ss.map Eu),ρ'))
 (h:∀s∈ss,s.2.2<1000/\(∃ρ',BL (E V (n+36)) tp "_law_by_hours" [.list (Ae (AA s.1)),.list (Ae (AA s.2.1)),.list xs] []=some (.list D,ρ'))/\∃AD,BL (E V (n+37)) tp "_law_by_lines" [.list (Ae (AA s.1)),.list (Ae (AA s.2.1)),.list ys] []=some (.tup [.list D,.list L'],AD)):
 ∃AJ,No AJ/\lS V n 20 (lst [sv,H,lx',told,rows,signs,.list ys,.list kl,.list (Ae Dh),.list (Ae os),ahead,.list D,.list L',pairs,text,whole,.list xs,t])=
  some (.next,lst ([sv,H,lx',told,rows,signs,.list ys,.list kl,.list (Ae Dh),.list (Ae os),ahead,.list D,.list L',pairs,text,whole,.list xs,t]++AJ)):=by
 refine Ak (jA (V:=V) (n:=n) (sv:=sv) (H:=H) (lx':=lx') (told:=told) (rows:=rows) (signs:=signs) (kinds:=.list kl) (cl:=.list (Ae Dh)) (op:=.list (Ae os)) (ahead:=ahead) (pairs:=pairs) (text:=text) (whole:=whole) (t:=t) JH JI (tl:=[]) h (.inl rfl)) λAJ z' e=>?_
 have a1:CG .Add (.list (Ae Dh)) (.list (Ae os))=some (.list (Ae (Dh++os))):=by
  have:=I0 (xs:=Ae Dh) (ys:=Ae os) (by rw[C5,C5];show _<=100000;exact Ac 0x14c186a0534110114a642341101 Aa lo)
  unfold Ae at this ⊢
  rwa [<-List.map_append] at this
 exact⟨AJ,z',E0 rfl rfl (Cr (Dp (B7 rfl (Bp (Bt rfl rfl a1) rfl) rfl) rfl es rfl rfl rfl rfl rfl rfl) rfl rfl) e⟩
end
theorem iA(h:∀c∈cs,∀s∈c,PyData.strOk s=true):∀s∈cs.flatten,PyData.strOk s=true:=by
 intro s hs
 refine Ak (List.mem_flatten.mp hs) λc hc h'=>?_
 exact h c hc s h'
theorem K4{N:List Str}(h:∀p∈g,p.1∈N):∀p∈Fq κ A N g t,p.1∈N:=by
 intro p hp
 obtain hp|hp:=List.mem_append.mp hp
 ·exact h p hp
 ·refine Ak (List.mem_map.mp hp) λs hs Ar=>?_;obtain rfl:=Ar
  exact List.mem_of_mem_take (List.mem_of_mem_drop hs)
theorem mF(κ A:List Nat)(N:List Str):∀p∈CQ κ A N,p.1∈N:=by
 have h0:∀p∈([]:List (Str×Nat)),p.1∈N:= λp hp=>(nomatch hp)
 exact K4 (K4 (K4 (K4 (K4 (K4 h0)))))
theorem jR(h:LoneAt ws s):EJ (plain ([(false,List.replicate s.1.length [40])]++Bu ws++[(false,List.replicate s.2.length [41])]))=true/\
 EJ (plain ([(false,List.replicate s.1.length [40])]++Bu ws++[(false,List.replicate (s.2.length+1) [41])]))=false/\EJ (plain ([(false,List.replicate (s.1.length+1) [40])]++Bu ws++[(false,List.replicate s.2.length [41])]))=false:=by
 have b0:=QH h (Nat.le_refl _)
 have b1:=QH h (Nat.le_succ _)
 rw[Nat.sub_self,Nat.add_zero] at b0
 rw[show s.1.length.succ - s.1.length=1 by exact Nat.le_antisymm (Ac 0x14c120114b4121141101 Aa (Nat.sub_add_cancel (Ah 0x14c4120101 Aa))) (Ac 0x14c111214a4011141201 Aa Bl)] at b1
 refine⟨?_,?_,?_⟩
 ·unfold EJ
  rw[EL,EL,GN,GN,EH,Lg,Int.zero_add,b0,Option.bind_some,LD _ _ (Nat.le_refl _),Nat.sub_self];rfl
 ·unfold EJ
  rw[EL,EL,GN,GN,EH,Lg,Int.zero_add,b0,Option.bind_some,List.replicate_succ',EH,LD _ _ (Nat.le_refl _),Nat.sub_self];rfl
 ·unfold EJ
  rw[EL,EL,GN,GN,EH,Lg,Int.zero_add,b1,Option.bind_some,LD _ _ (by exact Ah 0x14c4120101 Aa),show s.2.length+1 - s.2.length=1 by exact Nat.le_antisymm (Ac 0x14c120114b4121141101 Aa (Nat.sub_add_cancel (Ah 0x14c4120101 Aa))) (Ac 0x14c111214a4011141201 Aa Bl)];rfl
theorem Qo{V:Nat}(hw:ws.length<=6)(hm:m<=100)(hj:j<=100):∃ρ',BL (E V (n+37)) tp "_check_parenthesis" [.str (S (List.replicate m 40++raw (Bu ws)++List.replicate j 41))] []=some (.bool (EJ (plain ([(false,List.replicate m [40])]++Bu ws++[(false,List.replicate j [41])]))),ρ'):=by
 have hl:=Ls ws
 have hg:Et ([(false,List.replicate m [40])]++Bu ws++[(false,List.replicate j [41])]):=IR (IR (JM (by decide) (by decide) _) (PC _)) (JM (by decide) (by decide) _)
 have hr:raw ([(false,List.replicate m [40])]++Bu ws++[(false,List.replicate j [41])])=List.replicate m 40++raw (Bu ws)++List.replicate j 41:=by
  rw[GH,GH,Kf,Kf]
 obtain⟨ρ',e⟩:=Qf (W:=V) (n:=n+24) hg (by rw[hr];simp only[List.length_append,List.length_replicate];show _<=100000;exact A7 0x14c186a0534214311114a815013114a64232114a64231184a6201 Aa hl.1 hj hm hw) (by simp only[List.length_append,List.length_singleton];show _<100000;exact Ac 0x16c186a0534124124111214a315011134a6201 Aa hl.2 hw)
 rw[hr] at e
 exact⟨ρ',e⟩
theorem lQ(κ A:List Nat)(N:List Str):(CQ κ A N).length<=N.length:=by
 have st:∀{g:List (Str×Nat)} {t:Nat},g.length<=N.length->(Fq κ A N g t).length<=N.length:= λ{g t} h=>Nat.le_trans T6 (Nat.max_le.mpr ⟨h,Nat.le_refl _⟩)
 exact st (st (st (st (st (st (Nat.zero_le _))))))
theorem Yy(h:∀y∈hs,y.good):(hs.map Hr.ren).flatten.length<=60*hs.length:=by
 induction hs with
 |nil=>exact Nat.le_refl _
 |cons y r ih=>
  have a:=Hr.ren_len (h y List.mem_cons_self).ok
  have b:=ih λz hz=>h z (List.mem_cons_of_mem _ hz)
  rw[List.map_cons,List.flatten_cons,List.length_append,List.length_cons]
  exact Ap 0x14c3c25412214110114a3c25211114a3c2301 Aa b a
theorem Y5{V:Nat}{v:AV}{a1 a2 a3 a4 a5 a6 a7 a8 a9 XQ Xn XE XV Yf XA Xx XB Xs XN Yo Yd:R}(h0:lS V n 0 (lst [.list xs])=some (.next,a1))(h1:lS V n 1 a1=some (.next,a2))(h2:lS V n 2 a2=some (.next,a3))(h3:lS V n 3 a3=some (.next,a4))(h4:lS V n 4 a4=some (.next,a5))(h5:lS V n 5 a5=some (.next,a6))(h6:lS V n 6 a6=some (.next,a7))(h7:lS V n 7 a7=some (.next,a8))(h8:lS V n 8 a8=some (.next,a9))(h9:lS V n 9 a9=some (.next,XQ))(RZ:lS V n 10 XQ=some (.next,Xn))(Rw:lS V n 11 Xn=some (.next,XE))(R2:lS V n 12 XE=some (.next,XV))(Rt:lS V n 13 XV=some (.next,Yf))(RA:lS V n 14 Yf=some (.next,XA))(uM:lS V n 15 XA=some (.next,Xx))(q9:lS V n 16 Xx=some (.next,XB))(rN:lS V n 17 XB=some (.next,Xs))(vK:lS V n 18 Xs=some (.next,XN))(qB:lS V n 19 XN=some (.next,Yo))(tD:lS V n 20 Yo=some (.next,Yd))(tJ:lS V n 21 Yd=some (.ret v,ρ')):BL (E V (n+41)) tp "law" [.list xs] []=some (v,ρ'):=
 CV Tc rfl (Cz (Aq h0 (Aq h1 (Aq h2 (Aq h3 (Aq h4 (Aq h5 (Aq h6 (Aq h7 (Aq h8 (Aq h9 (Aq RZ (Aq Rw (Aq R2 (Aq Rt (Aq RA (Aq uM (Aq q9 (Aq rN (Aq vK (Aq qB (Aq tD (A3 tJ)))))))))))))))))))))) rfl)
set_option maxHeartbeats 1000000 in
theorem dR{V:Nat}{L:List Int}{d0 d1 d2 d3 d4 d5:Hx}(hV:V=W+110)(ok:∀d∈[d0,d1,d2,d3,d4,d5],d.ok){Yp:R}(hh:BL (E V (n+39)) tp "_law_hours" [.list (L.map .int)] []=some (.list (([d0,d1,d2,d3,d4,d5].map Hx.hr).map Hr.v),Yp))
 (sm:T4 (Bb ([d0,d1,d2,d3,d4,d5].map Hx.w)) d0.c d1.c d2.c d3.c d4.c d5.c):∃ρ',BL (E V (n+41)) tp "law" [.list (L.map .int)] []=some (.bool true,ρ'):=by
 have good:∀x∈[d0,d1,d2,d3,d4,d5].map Hx.hr,x.good:=by
  intro x hx
  refine Ak (List.mem_map.mp hx) λd hd Ar=>?_;obtain rfl:=Ar
  exact(ok d hd).good
 have Mn:([d0,d1,d2,d3,d4,d5].map Hx.hr).length=6:=rfl
 have r3:∀x∈[d0,d1,d2,d3,d4,d5].map Hx.hr,x.row.length<=3:= λx hx=>(good x hx).2.1
 have vI:∀x∈[d0,d1,d2,d3,d4,d5].map Hx.hr,∀l∈x.row,PyData.strOk (S l)=true:=by
  intro x hx
  refine Ak (List.mem_map.mp hx) λd hd Ar=>?_;obtain rfl:=Ar
  exact(ok d hd).strs
 obtain⟨ρ1,e1⟩:=Zd (V:=V) (n:=n+27) (hs:=[d0,d1,d2,d3,d4,d5].map Hx.hr) (λx hx=>(good x hx).ok) (by rw[Mn];exact AE 0x16c3e83362 Aa)
 have l1:=Yy good
 rw[Mn] at l1
 have tk:Fh (W+110) 1 [] (([d0,d1,d2,d3,d4,d5].map Hx.hr).map Hr.ren).flatten (BW 1 ([d0,d1,d2,d3,d4,d5].map Hx.hr)) 7 [] []:=Z5 (V:=W) (x:=d0.hr) (hs:=[d1,d2,d3,d4,d5].map Hx.hr) good (by show 5<500;exact AE 0x16c1f43352 Aa)
 rw[<-hV] at tk
 have lw:=T8 r3 1
 rw[Mn] at lw
 refine Ak (QQ (n:=n+21) tk (by exact Ah 0x16c384330114a3156201 Aa lw) (by exact Ap 0x16c012114a315622115b46e231101 Aa lw hV)) λAD e2 tN=>?_
 have uZ:Cb 5 (.list ((BW 1 ([d0,d1,d2,d3,d4,d5].map Hx.hr)).map BE))=true:=PI (n:=2) (f:=Prod.fst) (g:=Prod.snd) (fK vI 1)
 obtain⟨⟨Hf,e3⟩,at'⟩:=nQ (V:=V) (n:=n+20) (w0:=d0.w) (w1:=d1.w) (w2:=d2.w) (w3:=d3.w) (w4:=d4.w) (w5:=d5.w)
 have mn:=ZI d0.w d1.w d2.w d3.w d4.w d5.w
 have HC:∀c∈[d0.c,d1.c,d2.c,d3.c,d4.c,d5.c],(∀v∈c,DB v)/\c.length<=2:=by
  have:∀c∈[d0,d1,d2,d3,d4,d5].map Hx.c,(∀v∈c,DB v)/\c.length<=2:=by
   intro c hc
   refine Ak (List.mem_map.mp hc) λd hd Ar=>?_;obtain rfl:=Ar
   exact⟨(ok d hd).nam,(ok d hd).clen⟩
  exact this
 have c2:∀c∈[d0.c,d1.c,d2.c,d3.c,d4.c,d5.c],c.length<=2:= λc hc=>(HC c hc).2
 have RJ:[d0.c,d1.c,d2.c,d3.c,d4.c,d5.c].flatten.length<=12:=by
  have h0:=c2 d0.c (by simp);have h1:=c2 d1.c (by simp);have h2:=c2 d2.c (by simp)
  have h3:=c2 d3.c (by simp);have h4:=c2 d4.c (by simp);have h5:=c2 d5.c (by simp)
  show(d0.c++(d1.c++(d2.c++(d3.c++(d4.c++(d5.c++[])))))).length<=12
  simp only[List.length_append,List.length_nil];exact Dy 0x14cc24444440251413121110114a225114a224114a223114a222114a221114a2201 Aa h5 h4 h3 h2 h1 h0
 have Mv:∀s∈[d0.c,d1.c,d2.c,d3.c,d4.c,d5.c].flatten,PyData.strOk s=true:=iA λc hc s hs=>((HC c hc).1 s hs).1
 obtain⟨OM,e4⟩:=YQ (V:=V) (n:=n+28) (κ:=Bb ([d0,d1,d2,d3,d4,d5].map Hx.w)) (A:=Bo [d0.c,d1.c,d2.c,d3.c,d4.c,d5.c]) (cm:=[d0.c,d1.c,d2.c,d3.c,d4.c,d5.c]) rfl rfl (by exact Ah 0x16c3e8330114ac201 Aa RJ)
 have R0:=mF (Bb ([d0,d1,d2,d3,d4,d5].map Hx.w)) (Bo [d0.c,d1.c,d2.c,d3.c,d4.c,d5.c]) [d0.c,d1.c,d2.c,d3.c,d4.c,d5.c].flatten
 obtain⟨s1,s2,s3,s4,s5,s6⟩:=sm
 have lD:(Bi (CQ (Bb ([d0,d1,d2,d3,d4,d5].map Hx.w)) (Bo [d0.c,d1.c,d2.c,d3.c,d4.c,d5.c]) [d0.c,d1.c,d2.c,d3.c,d4.c,d5.c].flatten)).length=Hi (IU (Bo [d0.c,d1.c,d2.c,d3.c,d4.c,d5.c]) (pairsOf (Bb ([d0,d1,d2,d3,d4,d5].map Hx.w)) (Bh (Bb ([d0,d1,d2,d3,d4,d5].map Hx.w))).2)):=(Kr _).trans s1
 have uN:[d0.c,d1.c,d2.c,d3.c,d4.c,d5.c]=[d0,d1,d2,d3,d4,d5].map Hx.c:=rfl
 have vB:[d0.w,d1.w,d2.w,d3.w,d4.w,d5.w]=[d0,d1,d2,d3,d4,d5].map Hx.w:=rfl
 rw[vB] at e3 at' mn
 rw[uN] at e4 R0 s1 s5 s6 lD RJ Mv c2
 generalize hds:[d0,d1,d2,d3,d4,d5]=ds at*
 have d6:ds.length=6:=by rw[<-hds];rfl
 have w6:(ds.map Hx.w).length=6:=by rw[List.length_map,d6]
 have cc:Bw (ds.map Hx.c)=Bw [d0.c,d1.c,d2.c,d3.c,d4.c,d5.c]:=by rw[<-hds];rfl
 have Ha:∀d∈ds,d.come.length<=2:= λd hd=>(ok d hd).2.2.1
 obtain⟨ρ5,e5⟩:=bZ (V:=V) (n:=n+17) (by exact Ac 0x16c01642315b46e231101 Aa hV) (by rw[w6];exact Nat.le_refl _) at' mn
 have FQ:=at'.2
 rw[w6] at FQ
 have jj:=jR at'
 obtain⟨ρ6,e6⟩:=Qo (V:=V) (n:=n) (ws:=ds.map Hx.w) (m:=(Bh (Bb (ds.map Hx.w))).1.length) (j:=(Bh (Bb (ds.map Hx.w))).2.length) (by rw[w6];exact Nat.le_refl _) (by exact Ac 0x14c64230114a6241101 Aa FQ) (by exact Ac 0x14c64231114a6241101 Aa FQ)
 obtain⟨ρ7,e7⟩:=Qo (V:=V) (n:=n) (ws:=ds.map Hx.w) (m:=(Bh (Bb (ds.map Hx.w))).1.length) (j:=(Bh (Bb (ds.map Hx.w))).2.length+1) (by rw[w6];exact Nat.le_refl _) (by exact Ac 0x14c64230114a6241101 Aa FQ) (by exact Ac 0x14c64234121114a6241101 Aa FQ)
 obtain⟨ρ8,e8⟩:=Qo (V:=V) (n:=n) (ws:=ds.map Hx.w) (m:=(Bh (Bb (ds.map Hx.w))).1.length+1) (j:=(Bh (Bb (ds.map Hx.w))).2.length) (by rw[w6];exact Nat.le_refl _) (by exact Ac 0x14c64234120114a6241101 Aa FQ) (by exact Ac 0x14c64231114a6241101 Aa FQ)
 rw[jj.1] at e6
 rw[jj.2.1,List.replicate_succ',<-List.append_assoc] at e7
 rw[jj.2.2,List.replicate_succ,List.cons_append,List.cons_append] at e8
 have bl:=(Ls (ds.map Hx.w)).1
 rw[w6] at bl
 have wl:(List.replicate (Bh (Bb (ds.map Hx.w))).1.length 40++raw (Bu (ds.map Hx.w))++List.replicate (Bh (Bb (ds.map Hx.w))).2.length 41).length<1000:=by
  simp only[List.length_append,List.length_replicate];exact Ap 0x16c3e8334114210114a815622114a6241101 Aa bl FQ
 have nm:∀j,j<6->True:= λ_ _=>trivial
 have m0:=HC d0.c (by simp);have m1:=HC d1.c (by simp);have m2:=HC d2.c (by simp)
 have m3:=HC d3.c (by simp);have m4:=HC d4.c (by simp);have m5:=HC d5.c (by simp)
 obtain⟨ρ9,e9⟩:=Z0 (W:=V) (n:=n+22) m0.2 m1.2 m2.2 m3.2 m4.2 m5.2 (by exact Ac 0x16c01142315b46e231101 Aa hV)
 rw[<-UO,<-cc,show[d0.c,d1.c,d2.c,d3.c,d4.c,d5.c]=ds.map Hx.c by rw[<-hds];rfl] at e9
 have Yb:Cb 5 (.list ((E1 (ds.map Hx.c)).map BA))=true:=by
  refine ZT (n:=2) (f:=Prod.snd) (g:= λp:Nat×Str=>(p.1:Int)) λp hp=>?_
  refine Ak (List.mem_flatMap.mp hp) λk hk hp=>?_
  refine Ak (List.mem_map.mp hp) λs hs Ar=>?_;obtain rfl:=Ar
  refine Mv s ?_
  rw[List.getD_eq_getElem?_getD] at hs
  cases h:(ds.map Hx.c)[k]? with
  |none=>rw[h] at hs;cases hs
  |some c=>rw[h] at hs;exact List.mem_flatten.mpr ⟨c,List.mem_of_getElem? h,hs⟩
 have ql:(E1 (ds.map Hx.c)).length<1000:=by
  rw[show ds.map Hx.c=[d0.c,d1.c,d2.c,d3.c,d4.c,d5.c] by rw[<-hds];rfl,UO]
  simp only[List.length_append,EM];exact Dy 0x16c3e8334514414314214110114a225114a224114a223114a222114a221114a2201 Aa m5.2 m4.2 m3.2 m2.2 m1.2 m0.2
 obtain⟨ρ10,e10⟩:=lK (V:=V) (n:=n+18) (by exact Ac 0x16c01642315b46e231101 Aa hV) (κ:=Bb (ds.map Hx.w)) (L:=(Bh (Bb (ds.map Hx.w))).1++(Bh (Bb (ds.map Hx.w))).2) (by unfold Bb;rw[List.length_map,w6]) s2 s3 s4
 have JH:Cb 5 (.list (Bi (CQ (Bb (ds.map Hx.w)) (Bo (ds.map Hx.c)) (ds.map Hx.c).flatten)))=true:=PI (n:=2) (f:=Prod.fst) (g:= λp:Str×Nat=>(p.2:Int)) λp hp=>Mv _ (R0 p hp)
 have rH:Cb 4 (.list (((ds.map Hx.c).flatten.drop (CQ (Bb (ds.map Hx.w)) (Bo (ds.map Hx.c)) (ds.map Hx.c).flatten).length).map .str))=true:=bD (n:=2) λs hs=>Mv s (List.mem_of_mem_drop hs)
 have sB:Cb 4 (.list (Bi (CQ (Bb (ds.map Hx.w)) (Bo (ds.map Hx.c)) (ds.map Hx.c).flatten)))=true:=PI (n:=1) (f:=Prod.fst) (g:= λp:Str×Nat=>(p.2:Int)) λp hp=>Mv _ (R0 p hp)
 have JI:Cb 5 (.tup [.list (Bi (CQ (Bb (ds.map Hx.w)) (Bo (ds.map Hx.c)) (ds.map Hx.c).flatten)),.list (((ds.map Hx.c).flatten.drop (CQ (Bb (ds.map Hx.w)) (Bo (ds.map Hx.c)) (ds.map Hx.c).flatten).length).map .str)])=true:=by
  show(Cb 4 _&&(Cb 4 _&&true))=true
  rw[sB,rH];rfl
 have rl:∀f:Nat->Bool,(AA f).length<100:= λf=>Nat.lt_of_le_of_lt (LB f) (by exact AE 0x16c642362 Aa)
 refine Ak (Zp (V:=V) (n:=n) (sv:=.list (L.map .int)) (H:=.list ((ds.map Hx.hr).map Hr.v)) (lx':=lx 7 [] []) (told:=.list ((BW 1 (ds.map Hx.hr)).map BE)) (rows:=.list (ds.map λd=>.list (Be d.hr.row))) (signs:=.list (ED (ds.map Hx.w))) (ahead:=.list (Ae (Bo (ds.map Hx.c)))) (pairs:=.list (Ae (pairsOf (Bb (ds.map Hx.w)) (Bh (Bb (ds.map Hx.w))).2))) (text:=.str (S (raw (Bu (ds.map Hx.w))))) (whole:=.str (S (List.replicate (Bh (Bb (ds.map Hx.w))).1.length 40++raw (Bu (ds.map Hx.w))++List.replicate (Bh (Bb (ds.map Hx.w))).2.length 41))) (t:=.list ((E1 (ds.map Hx.c)).map BA)) (xs:=(E1 (ds.map Hx.c)).map BA) (ys:=(ds.map Hx.c).map λc=>.list (c.map .str)) JH JI (by rw[List.length_append] at s4;exact Ac 0x14c64234110114a6241101 Aa FQ) e10 (λs hs=>by
  obtain⟨q1,q2⟩:=s5 s hs
  obtain⟨q3,q4⟩:=s6 s hs
  obtain⟨Xy,ea⟩:=aD (V:=V) (n:=n+21) (q:=E1 (ds.map Hx.c)) (L6 s.1) (L6 s.2.1) (rl _) (rl _) ql (by exact Ac 0x16c01642315b46e231101 Aa hV)
  obtain⟨Xz,eb⟩:=aA (n:=n+12) (O:=(AA s.1).map λ(k:Nat)=>(k:Int)) (T:=(AA s.2.1).map λ(k:Nat)=>(k:Int)) (hV.trans (show W+110=(W+60)+50 by exact Nat.le_antisymm (Ah 0x14c4322343c230146e2301 Aa) (Ah 0x14c46e23014322343c2301 Aa))) HC
  rw[q2] at ea
  rw[q3,q4,<-Ra,<-Ra,<-cc] at eb
  exact⟨q1,⟨Xy,ea⟩,Xz,eb⟩)) λtl z uF=>?_
 have uO:CK.map (Mh (ds.map Hx.hr))=ds.map λd=>.list (Be d.hr.row):=by rw[<-hds];rfl
 have XY:=Y3 (V:=V) (n:=n) (sv:=.list (L.map .int)) (H:=.list ((ds.map Hx.hr).map Hr.v)) (lx':=lx 7 [] []) (hs:=ds.map Hx.hr) Mn (by exact Ah 0x16c3e8330114a3156201 Aa lw)
 rw[uO] at XY
 have rV:∀c∈ds.map Hx.c,c.length<1000:= λc hc=>Nat.lt_of_le_of_lt (c2 c hc) (by exact AE 0x16c3e83322 Aa)
 have last:∃ρ',lS V n 21 (lst ([.list (L.map .int),.list ((ds.map Hx.hr).map Hr.v),lx 7 [] [],.list ((BW 1 (ds.map Hx.hr)).map BE),.list (ds.map λd=>.list (Be d.hr.row)),.list (ED (ds.map Hx.w)),Bw (ds.map Hx.c),.list (Ae (Bb (ds.map Hx.w))),.list (Ae (Bh (Bb (ds.map Hx.w))).1),.list (Ae (Bh (Bb (ds.map Hx.w))).2),.list (Ae (Bo (ds.map Hx.c))),.list (Bi (CQ (Bb (ds.map Hx.w)) (Bo (ds.map Hx.c)) (ds.map Hx.c).flatten)),.list (((ds.map Hx.c).flatten.drop (CQ (Bb (ds.map Hx.w)) (Bo (ds.map Hx.c)) (ds.map Hx.c).flatten).length).map .str),.list (Ae (pairsOf (Bb (ds.map Hx.w)) (Bh (Bb (ds.map Hx.w))).2)),.str (S (raw (Bu (ds.map Hx.w)))),.str (S (List.replicate (Bh (Bb (ds.map Hx.w))).1.length 40++raw (Bu (ds.map Hx.w))++List.replicate (Bh (Bb (ds.map Hx.w))).2.length 41)),.list ((E1 (ds.map Hx.c)).map BA),.list ((E1 (ds.map Hx.c)).map BA)]++tl))=some (.ret (.bool true),ρ'):=⟨_,CB rfl⟩
 obtain⟨ρ',last⟩:=last
 have vZ:(2:Int)+(5:Nat)=7:=rfl
 have uG:Hi (IU (Bo (ds.map Hx.c)) (pairsOf (Bb (ds.map Hx.w)) (Bh (Bb (ds.map Hx.w))).2))<1000:=by
  have:=lQ (Bb (ds.map Hx.w)) (Bo (ds.map Hx.c)) (ds.map Hx.c).flatten
  rw[<-s1];exact Ac 0x16c3e8331114a011114ac201 Aa this RJ
 have sD:(((Bb (ds.map Hx.w)).count 1:Nat):Int) - ((Bb (ds.map Hx.w)).count 2:Nat)=((Bh (Bb (ds.map Hx.w))).2.length:Int) - (Bh (Bb (ds.map Hx.w))).1.length:=by
  have:=mn.2
  exact Int.le_antisymm (A7 0x10c8721701871173115b4312141101 Aa this) (A7 0x10c8711731872170114b4312141101 Aa this)
 have k6:(Bb (ds.map Hx.w)).length=6:=by unfold Bb;rw[List.length_map,w6]
 exact⟨ρ',Y5 (j8 hh) (eG e1 (by exact Ah 0x14c186a0530114a3c256201 Aa l1)) (iM e2 tN) (pF Mn r3 uZ) XY (fL (by exact Ah 0x16c64230114b6201 Aa d6)) (cJ (by exact Ah 0x16c64230114b6201 Aa d6) λd hd=>Nat.lt_of_le_of_lt (Ha d hd) (by exact AE 0x16c642322 Aa)) (jK (by exact Ah 0x16c64230114b6201 Aa d6)) (YG e3) (d7 (by rw[List.length_map];exact Ah 0x16c64230114b6201 Aa d6) rV) (iB e4) (aG k6) (nR rfl rfl lD uG rfl) (pC (by exact Ah 0x16c64230114b6201 Aa w6)) (fZ e5 sD rfl (by exact Ac 0x16c3e8330114a6241101 Aa FQ)) (nB (by exact Ac 0x14c620114a6241101 Aa FQ) (by exact Ac 0x14c621114a6241101 Aa FQ) (by exact Ah 0x16c3e8330114a8156201 Aa bl)) (aV wl e6 e7) (mM e9) (YO wl e8 Yb) (Zw (by rw[List.length_map];exact Nat.le_antisymm (Ah 0x14c620114b6201 Aa d6) (Ah 0x14c016215b6201 Aa d6)) c2 Yb) uF last⟩
noncomputable def Xr(A f:Nat->Nat):Nat->Nat
 |0=>A 0
 |n+1=>min (A (n+1)) (Xr A f n+f n)
noncomputable def Yr(A f g:Nat->Nat):Nat->Nat
 |0=>A 0
 |n+1=>min (Xr A f (n+1)) (Yr A f g n+g n)
noncomputable def Fs(f:Nat->Nat)(u:Nat):Nat->Nat
 |0=>0
 |j+1=>Fs f u j+f (u+j)
noncomputable def Zs(f g:Nat->Nat)(u:Nat):Nat->Nat
 |0=>0
 |j+1=>min (Fs f u (j+1)) (Zs f g u j+g (u+j))
noncomputable def D2:Nat->(Nat->Nat)->Nat
 |0,h=>h 0
 |n+1,h=>min (D2 n h) (h (n+1))
theorem Ot{h k:Nat->Nat}(e:∀u,u<=n->h u=k u):D2 n h=D2 n k:=by
 induction n with
 |zero=>exact e 0 (Nat.le_refl _)
 |succ n ih=>
  show min _ _=min _ _
  rw[ih λu hu=>e u (by exact Ac 0x14c412110114a1101 Aa hu),e (n+1) (Nat.le_refl _)]
theorem W7(n c:Nat)(h:Nat->Nat):D2 n (λu=>h u+c)=D2 n h+c:=by
 induction n with
 |zero=>rfl
 |succ n ih=>
  show min (D2 n λu=>h u+c) (h (n+1)+c)=min (D2 n h) (h (n+1))+c
  rw[ih];exact Bm (λA6 Af=>Bm (λAS Am=>Nat.le_antisymm (A7 0x14c431012114b431112115b1101 Aa Af Am) (A7 0x14c214310115b431112114b1101 Aa Af Am)) (λAS Am=>Nat.le_antisymm (A7 0x14c421310115b113114a4211101 Aa Am (Nat.min_le_right _ _)) (A7 0x14c214310115b431112114a1101 Aa Af (Nat.min_le_left _ _)))) (λA6 Af=>Bm (λAS Am=>Nat.le_antisymm (A7 0x14c421310115b113114a4211101 Aa Am (Nat.min_le_left _ _)) (A7 0x14c214310115b431112114a1101 Aa Af (Nat.min_le_right _ _))) (λAS Am=>Nat.le_antisymm (A7 0x14c431012114b431112115b1101 Aa Af Am) (A7 0x14c214310115b431112114b1101 Aa Af Am)))
theorem jM(n:Nat)(h k:Nat->Nat):D2 n (λu=>min (h u) (k u))=min (D2 n h) (D2 n k):=by
 induction n with
 |zero=>rfl
 |succ n ih=>
  show min (D2 n λu=>min (h u) (k u)) (min (h (n+1)) (k (n+1)))=min (min (D2 n h) (h (n+1))) (min (D2 n k) (k (n+1)))
  rw[ih];exact Bm (λA6 Af=>Bm (λAS Am=>Bm (λBq A0=>Bm (λCR Bs=>Nat.le_antisymm (AW 0x14c314114b214115b013114b112115b1101 Aa Af Am A0 Bs) (AW 0x14c413115b214114b013115b112114b1101 Aa Af Am A0 Bs)) (λCR Bs=>Nat.le_antisymm (AW 0x14c412115b314115b113114a012114a1101 Aa Am Bs (Nat.min_le_right _ _) (Nat.min_le_left _ _)) (AW 0x14c413115b214114b013115b112114a1101 Aa Af Am A0 (Nat.min_le_left _ _)))) (λBq A0=>Bm (λCR Bs=>Nat.le_antisymm (AW 0x14c314114b014115b213115b112114a1101 Aa Af Am Bs (Nat.min_le_left _ _)) (AW 0x14c412115b314115b113114a012114a1101 Aa Af A0 (Nat.min_le_right _ _) (Nat.min_le_left _ _))) (λCR Bs=>Nat.le_antisymm (AW 0x14c412115b314115b113114a012114a1101 Aa Am Bs (Nat.min_le_right _ _) (Nat.min_le_left _ _)) (AW 0x14c412115b314115b113114a012114a1101 Aa Af A0 (Nat.min_le_right _ _) (Nat.min_le_left _ _))))) (λAS Am=>Bm (λBq A0=>Bm (λCR Bs=>Nat.le_antisymm (AW 0x14c314114b014115b213115b112114a1101 Aa Af Am Bs (Nat.min_le_right _ _)) (AW 0x14c412115b314115b113114a012114a1101 Aa Af A0 (Nat.min_le_left _ _) (Nat.min_le_left _ _))) (λCR Bs=>Nat.le_antisymm (AW 0x14c412115b314115b113114a012114a1101 Aa Am Bs (Nat.min_le_right _ _) (Nat.min_le_right _ _)) (AW 0x14c412115b314115b113114a012114a1101 Aa Af A0 (Nat.min_le_left _ _) (Nat.min_le_left _ _)))) (λBq A0=>Bm (λCR Bs=>Nat.le_antisymm (AW 0x14c314114b214115b013114b112115b1101 Aa Af Am A0 Bs) (AW 0x14c413115b214114b013115b112114b1101 Aa Af Am A0 Bs)) (λCR Bs=>Nat.le_antisymm (AW 0x14c412115b314115b113114a012114a1101 Aa Am Bs (Nat.min_le_right _ _) (Nat.min_le_right _ _)) (AW 0x14c413115b214114b013115b112114a1101 Aa Af Am A0 (Nat.min_le_left _ _)))))) (λA6 Af=>Bm (λAS Am=>Bm (λBq A0=>Bm (λCR Bs=>Nat.le_antisymm (AW 0x14c412115b314115b113114a012114a1101 Aa Am Bs (Nat.min_le_left _ _) (Nat.min_le_left _ _)) (AW 0x14c413115b214114b013115b112114a1101 Aa Af Am A0 (Nat.min_le_right _ _))) (λCR Bs=>Nat.le_antisymm (AW 0x14c314114b214115b013114b112115b1101 Aa Af Am A0 Bs) (AW 0x14c413115b214114b013115b112114b1101 Aa Af Am A0 Bs))) (λBq A0=>Bm (λCR Bs=>Nat.le_antisymm (AW 0x14c412115b314115b113114a012114a1101 Aa Am Bs (Nat.min_le_left _ _) (Nat.min_le_left _ _)) (AW 0x14c412115b314115b113114a012114a1101 Aa Af A0 (Nat.min_le_right _ _) (Nat.min_le_right _ _))) (λCR Bs=>Nat.le_antisymm (AW 0x14c314114b014115b213115b112114a1101 Aa Af Am Bs (Nat.min_le_left _ _)) (AW 0x14c412115b314115b113114a012114a1101 Aa Af A0 (Nat.min_le_right _ _) (Nat.min_le_right _ _))))) (λAS Am=>Bm (λBq A0=>Bm (λCR Bs=>Nat.le_antisymm (AW 0x14c412115b314115b113114a012114a1101 Aa Am Bs (Nat.min_le_left _ _) (Nat.min_le_right _ _)) (AW 0x14c412115b314115b113114a012114a1101 Aa Af A0 (Nat.min_le_left _ _) (Nat.min_le_right _ _))) (λCR Bs=>Nat.le_antisymm (AW 0x14c314114b014115b213115b112114a1101 Aa Af Am Bs (Nat.min_le_right _ _)) (AW 0x14c412115b314115b113114a012114a1101 Aa Af A0 (Nat.min_le_left _ _) (Nat.min_le_right _ _)))) (λBq A0=>Bm (λCR Bs=>Nat.le_antisymm (AW 0x14c412115b314115b113114a012114a1101 Aa Am Bs (Nat.min_le_left _ _) (Nat.min_le_right _ _)) (AW 0x14c413115b214114b013115b112114a1101 Aa Af Am A0 (Nat.min_le_right _ _))) (λCR Bs=>Nat.le_antisymm (AW 0x14c314114b214115b013114b112115b1101 Aa Af Am A0 Bs) (AW 0x14c413115b214114b013115b112114b1101 Aa Af Am A0 Bs)))))
theorem iV(A f:Nat->Nat):∀n,Xr A f n=D2 n λu=>A u+Fs f u (n - u):=by
 intro Al
 induction Al with
 |zero=>
  exact rfl
 |succ n zih=>
  show min (A (n+1)) (Xr A f n+f n)=min (D2 n λu=>A u+Fs f u (n+1 - u)) (A (n+1)+Fs f (n+1) (n+1 - (n+1)))
  rw[zih,<-W7,Nat.sub_self,Ot (h:= λu=>A u+Fs f u (n+1 - u)) (k:= λu=>A u+Fs f u (n - u)+f n) (λu hu=>by
   rw[show n+1 - u=(n - u)+1 by exact Nat.le_antisymm (A7 0x14c412310114a411312114b4122141101 Aa Bl (Nat.sub_add_cancel (Ac 0x14c412110114a1101 Aa hu))) (A7 0x14c314120114a411314122114b2141101 Aa Bl (Nat.sub_add_cancel (Ac 0x14c110114a1101 Aa hu)))]
   show A u+(Fs f u (n - u)+f (u+(n - u)))=_
   rw[show u+(n - u)=n by exact Nat.le_antisymm (Ap 0x14c214011114b2141101 Aa (Nat.sub_add_cancel (Ac 0x14c110114a1101 Aa hu))) (Ap 0x14c411210114a4211101 Aa Bl)];exact Nat.le_antisymm (Ap 0x14c4214110144211101 Aa) (Ap 0x14c4421110142141101 Aa))]
  show _=min _ (A (n+1)+0)
  exact Bm (λA6 Af=>Bm (λAS Am=>Nat.le_antisymm (Ap 0x14c210115b112114a1101 Aa Am (Nat.min_le_right _ _)) (Ap 0x14c210115b112114a4021101 Aa Af (Nat.min_le_right _ _))) (λAS Am=>Nat.le_antisymm (Ap 0x14c012114b112115b4021101 Aa Af Am) (Ap 0x14c210115b112114b4021101 Aa Af Am))) (λA6 Af=>Bm (λAS Am=>Nat.le_antisymm (Ap 0x14c012114b112115b1101 Aa Af Am) (Ap 0x14c210115b112114b1101 Aa Af Am)) (λAS Am=>Nat.le_antisymm (Ap 0x14c210115b402112114a1101 Aa Am (Nat.min_le_left _ _)) (Ap 0x14c210115b112114a1101 Aa Af (Nat.min_le_left _ _))))
theorem Rs(A f g:Nat->Nat):∀n,Yr A f g n=D2 n λu=>A u+Zs f g u (n - u):=by
 intro Al
 induction Al with
 |zero=>
  exact rfl
 |succ n zih=>
  show min (Xr A f (n+1)) (Yr A f g n+g n)=min (D2 n λu=>A u+Zs f g u (n+1 - u)) (A (n+1)+Zs f g (n+1) (n+1 - (n+1)))
  rw[iV A f (n+1),zih,<-W7,Nat.sub_self,Ot (h:= λu=>A u+Zs f g u (n+1 - u)) (k:= λu=>min (A u+Fs f u (n+1 - u)) (A u+Zs f g u (n - u)+g n)) (λu hu=>by
   rw[show n+1 - u=(n - u)+1 by exact Nat.le_antisymm (A7 0x14c412310114a411312114b4122141101 Aa Bl (Nat.sub_add_cancel (Ac 0x14c412110114a1101 Aa hu))) (A7 0x14c314120114a411314122114b2141101 Aa Bl (Nat.sub_add_cancel (Ac 0x14c110114a1101 Aa hu)))]
   show A u+min (Fs f u (n - u+1)) (Zs f g u (n - u)+g (u+(n - u)))=_
   rw[show u+(n - u)=n by exact Nat.le_antisymm (Ap 0x14c214011114b2141101 Aa (Nat.sub_add_cancel (Ac 0x14c110114a1101 Aa hu))) (Ap 0x14c411210114a4211101 Aa Bl)];exact Bm (λA6 Af=>Bm (λAS Am=>Nat.le_antisymm (A7 0x14c014311114b213115b4211101 Aa Af Am) (A7 0x14c431110115b213114b4211101 Aa Af Am)) (λAS Am=>Nat.le_antisymm (AW 0x14c314014115b421411413114a4211101 Aa Am (Nat.min_le_right _ _)) (A7 0x14c431110115b213114a4211101 Aa Af (Nat.min_le_left _ _)))) (λA6 Af=>Bm (λAS Am=>Nat.le_antisymm (A7 0x14c214013115b411312114a1101 Aa Am (Nat.min_le_left _ _)) (AW 0x14c441110115b431214114a4314211101 Aa Af (Nat.min_le_right _ _))) (λAS Am=>Nat.le_antisymm (AW 0x14c014411114b431214115b4314211101 Aa Af Am) (AW 0x14c441110115b431214114b4314211101 Aa Af Am)))),jM]
  show min (min (D2 n λu=>A u+Fs f u (n+1 - u)) (A (n+1)+Fs f (n+1) (n+1 - (n+1)))) _=min (min _ _) (A (n+1)+0)
  rw[Nat.sub_self]
  show min (min _ (A (n+1)+0)) _=_
  exact Bm (λA6 Af=>Bm (λAS Am=>Bm (λBq A0=>Bm (λCR Bs=>Nat.le_antisymm (AW 0x14c314114b214115b013114b112115b1101 Aa Af Am A0 Bs) (AW 0x14c413115b214114b013115b112114b1101 Aa Af Am A0 Bs)) (λCR Bs=>Nat.le_antisymm (A7 0x14c310115b213115b112114a1101 Aa Am Bs (Nat.min_le_right _ _)) (AW 0x14c413115b214114b013115b112114a1101 Aa Af Am A0 (Nat.min_le_left _ _)))) (λBq A0=>Bm (λCR Bs=>Nat.le_antisymm (AW 0x14c314114b014115b213115b112114a1101 Aa Af Am Bs (Nat.min_le_left _ _)) (A7 0x14c310115b213115b402112114a4021101 Aa Af A0 (Nat.min_le_right _ _))) (λCR Bs=>Nat.le_antisymm (A7 0x14c310115b213115b112114a1101 Aa Am Bs (Nat.min_le_right _ _)) (A7 0x14c310115b213115b402112114a4021101 Aa Af A0 (Nat.min_le_right _ _))))) (λAS Am=>Bm (λBq A0=>Nat.le_antisymm (A7 0x14c213114b013115b402112114a4021101 Aa Af Am (Nat.min_le_right _ _)) (AW 0x14c412115b314115b113114a012114a1101 Aa Af A0 (Nat.min_le_left _ _) (Nat.min_le_left _ _))) (λBq A0=>Nat.le_antisymm (A7 0x14c213114b013115b402112114b4021101 Aa Af Am A0) (A7 0x14c312115b013114b402112115b4021101 Aa Af Am A0)))) (λA6 Af=>Bm (λAS Am=>Bm (λBq A0=>Bm (λCR Bs=>Nat.le_antisymm (AW 0x14c410115b214114b311115b312114a1101 Aa Am A0 Bs (Nat.min_le_left _ _)) (A7 0x14c312115b113114b012114a1101 Aa Af Am (Nat.min_le_right _ _))) (λCR Bs=>Nat.le_antisymm (A7 0x14c213114b113115b012115b1101 Aa Af Am Bs) (A7 0x14c312115b113114b012114b1101 Aa Af Am Bs))) (λBq A0=>Bm (λCR Bs=>Nat.le_antisymm (AW 0x14c412115b314115b113114a012114a1101 Aa Am Bs (Nat.min_le_left _ _) (Nat.min_le_left _ _)) (A7 0x14c312115b113114b012114a1101 Aa Af Am (Nat.min_le_right _ _))) (λCR Bs=>Nat.le_antisymm (A7 0x14c213114b113115b012115b1101 Aa Af Am Bs) (A7 0x14c312115b113114b012114b1101 Aa Af Am Bs)))) (λAS Am=>Nat.le_antisymm (A7 0x14c312115b402113114a012114a4021101 Aa Am (Nat.min_le_left _ _) (Nat.min_le_right _ _)) (A7 0x14c312115b113114a012114a1101 Aa Af (Nat.min_le_left _ _) (Nat.min_le_right _ _))))
theorem oZ{A f g g':Nat->Nat}(h:∀u j,u+j<=m->Zs f g u j=Zs f' g' u j)(hn:n<=m):Yr A f g n=Yr A f' g' n:=by
 rw[Rs,Rs]
 exact Ot λu hu=>by rw[h u (n - u) (by exact A7 0x14c314011114a312114b2141101 Aa hn (Nat.sub_add_cancel (Ac 0x14c110114a1101 Aa hu)))]
theorem jE(A f:Nat->Nat)(h:u<=n):Xr A f n<=A u+Fs f u (n - u):=by
 obtain⟨j,rfl⟩:∃j,n=u+j:=⟨n - u,by exact Nat.le_antisymm (Ap 0x14c411210114a4211101 Aa Bl) (Ap 0x14c214011114b2141101 Aa (Nat.sub_add_cancel (Ac 0x14c110114a1101 Aa h)))⟩
 rw[show u+j - u=j by exact Nat.le_antisymm (Ap 0x14c210114b4211141101 Aa (Nat.sub_add_cancel (Ac 0x14c4110101 Aa))) (Ap 0x14c211114a4012141101 Aa Bl)]
 induction j with
 |zero=>
  show Xr A f u<=A u
  cases u with
  |zero=>exact Nat.le_refl _
  |succ u=>exact Nat.min_le_left _ _
 |succ j ih=>
  show min (A (u+j+1)) (Xr A f (u+j)+f (u+j))<=A u+(Fs f u j+f (u+j))
  have:=ih (by exact Ac 0x14c4110101 Aa)
  exact AW 0x14c442141310114a441311114a4211101 Aa this (Nat.min_le_right _ _)
theorem YC(A f g:Nat->Nat){v:Nat}(h:u<=v)(h':v<=n):Yr A f g n<=A u+Fs f u (v - u)+Fs g v (n - v):=by
 obtain⟨j,rfl⟩:∃j,n=v+j:=⟨n - v,by exact Nat.le_antisymm (Ap 0x14c411210114a4211101 Aa Bl) (Ap 0x14c214011114b2141101 Aa (Nat.sub_add_cancel (Ac 0x14c110114a1101 Aa h')))⟩
 rw[show v+j - v=j by exact Nat.le_antisymm (Ap 0x14c210114b4211141101 Aa (Nat.sub_add_cancel (Ac 0x14c4110101 Aa))) (Ap 0x14c211114a4012141101 Aa Bl)]
 induction j with
 |zero=>
  have:=jE A f h
  have:Yr A f g v<=Xr A f v:=by
   cases v with
   |zero=>exact Nat.le_refl _
   |succ v=>exact Nat.min_le_left _ _
  show Yr A f g v<=A u+Fs f u (v - u)+0
  omega
 |succ j ih=>
  have:=ih (by exact Ac 0x14c4110101 Aa)
  show min _ (Yr A f g (v+j)+g (v+j))<=A u+Fs f u (v - u)+(Fs g v j+g (v+j))
  exact Dy 0x14c442151441310114a451441311114a4211101 Aa this (Nat.min_le_right _ _)
theorem YV(A f:Nat->Nat):∀n,∃u,u<=n/\Xr A f n=A u+Fs f u (n - u):=by
 intro Al
 induction Al with
 |zero=>
  exact⟨0,Nat.le_refl _,rfl⟩
 |succ n zih=>
  refine Ak (zih) λu hu e=>?_
  by_cases c:A (n+1)<=Xr A f n+f n
  ·refine⟨n+1,Nat.le_refl _,?_⟩
   rw[Nat.sub_self]
   show min _ _=A (n+1)+0
   exact Bm (λA6 Af=>Nat.le_antisymm (Ac 0x14c402110114b1101 Aa Af) (Ac 0x14c014021115b1101 Aa Af)) (λA6 Af=>Nat.le_antisymm (Ac 0x14c402110114a1101 Aa (Nat.min_le_left _ _)) (A7 0x14c014023114a421113115b4211101 Aa c Af))
  ·refine⟨u,by exact Ac 0x14c412110114a1101 Aa hu,?_⟩
   rw[show n+1 - u=n - u+1 by exact Nat.le_antisymm (A7 0x14c412310114a411312114b4122141101 Aa Bl (Nat.sub_add_cancel (Ac 0x14c412110114a1101 Aa hu))) (A7 0x14c314120114a411314122114b2141101 Aa Bl (Nat.sub_add_cancel (Ac 0x14c110114a1101 Aa hu)))]
   show min _ _=A u+(Fs f u (n - u)+f (u+(n - u)))
   rw[show u+(n - u)=n by exact Nat.le_antisymm (Ap 0x14c214011114b2141101 Aa (Nat.sub_add_cancel (Ac 0x14c110114a1101 Aa hu))) (Ap 0x14c411210114a4211101 Aa Bl)];exact Bm (λA6 Af=>Nat.le_antisymm (Dy 0x04c442151413115a421110114a4211101 Aa c A6) (Dy 0x14c014451413115a451211115b441312115b1101 Aa c e Af)) (λA6 Af=>Nat.le_antisymm (AW 0x14c442141310114b441311114b4211101 Aa e Af) (AW 0x14c014421413115b441311115b4211101 Aa e Af))
theorem eB(A f g:Nat->Nat):∀n,∃u v,u<=v/\v<=n/\Yr A f g n=A u+Fs f u (v - u)+Fs g v (n - v):=by
 intro Al
 induction Al with
 |zero=>
  exact⟨0,0,Nat.le_refl _,Nat.le_refl _,rfl⟩
 |succ n zih=>
  refine GV (zih) λu v hu hv e=>?_
  by_cases c:Xr A f (n+1)<=Yr A f g n+g n
  ·refine Ak (YV A f (n+1)) λw hw e'=>?_
   refine⟨w,n+1,hw,Nat.le_refl _,?_⟩
   rw[Nat.sub_self,<-e']
   show min _ _=_+0
   exact Bm (λA6 Af=>Nat.le_antisymm (Ac 0x14c402110114b1101 Aa Af) (Ac 0x14c014021115b1101 Aa Af)) (λA6 Af=>Nat.le_antisymm (Ac 0x14c402110114a1101 Aa (Nat.min_le_left _ _)) (A7 0x14c014023114a421113115b4211101 Aa c Af))
  ·refine⟨u,v,hu,by exact Ac 0x14c412110114a1101 Aa hv,?_⟩
   rw[show n+1 - v=n - v+1 by exact Nat.le_antisymm (A7 0x14c412310114a411312114b4122141101 Aa Bl (Nat.sub_add_cancel (Ac 0x14c412110114a1101 Aa hv))) (A7 0x14c314120114a411314122114b2141101 Aa Bl (Nat.sub_add_cancel (Ac 0x14c110114a1101 Aa hv)))]
   show min _ _=A u+Fs f u (v - u)+(Fs g v (n - v)+g (v+(n - v)))
   rw[show v+(n - v)=n by exact Nat.le_antisymm (Ap 0x14c214011114b2141101 Aa (Nat.sub_add_cancel (Ac 0x14c110114a1101 Aa hv))) (Ap 0x14c411210114a4211101 Aa Bl)];exact Bm (λA6 Af=>Nat.le_antisymm (T7 0x04c442161451413115a421110114a4211101 Aa c A6) (T7 0x14c014461514413115a461211115b451441312115b1101 Aa c e Af)) (λA6 Af=>Nat.le_antisymm (Dy 0x14c442151441310114b451441311114b4211101 Aa e Af) (Dy 0x14c014421514413115b451441311115b4211101 Aa e Af))
noncomputable def Gg:Nat->(List Nat->Bool)->Bool
 |0,P=>P []
 |n+1,P=>Gg n λr=>P (0::r)&&(P (1::r)&&P (2::r))
theorem GI:∀{n:Nat} {P:List Nat->Bool},Gg n P=true->∀{l:List Nat},l.length=n->(∀x∈l,x<3)->P l=true
 |0,P,h,l,hl,_=>by rw[List.length_eq_zero_iff.mp hl];exact h
 |n+1,P,h,[],hl,_=>by cases hl
 |n+1,P,h,x::r,hl,hx=>by
  have:=GI (n:=n) h (l:=r) (by simpa using hl) λy hy=>hx y (List.mem_cons_of_mem _ hy)
  obtain⟨h0,h1⟩:=Bool.and_eq_true_iff.mp this
  obtain⟨h1,h2⟩:=Bool.and_eq_true_iff.mp h1
  have h4:=hx x List.mem_cons_self
  match x,h4 with
  |0,_=>exact h0
  |1,_=>exact h1
  |2,_=>exact h2
noncomputable def HI:List Nat->Nat->Nat->List Nat
 |[],_,_=>[]
 |x::w,F,Z=>((F+x%2) - ((F+x%2) - (Z+x/2)))::HI w (F+x%2) ((F+x%2) - ((F+x%2) - (Z+x/2)))
noncomputable def Hs:List Nat->List (List Nat)
 |[]=>[]
 |x::w=>HI (x::w) 0 0::Hs w
noncomputable def Gi:Nat->Nat->List Nat->List Nat
 |_,_,[]=>[]
 |0,v,_::r=>v::r
 |k+1,v,a::r=>a::Gi k v r
noncomputable def Oh:List Nat->List Nat->Bool
 |[],[]=>true
 |a::r,b::s=>Nat.beq a b&&Oh r s
 |_,_=>false
noncomputable def MI:List (List Nat)->List (List Nat)->Bool
 |[],[]=>true
 |a::r,b::s=>Oh a b&&MI r s
 |_,_=>false
noncomputable def sameAll(T:List (List Nat)):List Nat->List Nat->Bool
 |[],w=>MI (Hs w) T
 |k::L,w=>MI (Hs w) T&&sameAll T L (Gi k 2 w)
noncomputable def JN:List Nat->List Nat->List Nat
 |[],w=>w
 |k::L,w=>JN L (Gi k 1 w)
noncomputable def K1:List Nat->Nat->Nat->Nat
 |[],_,Z=>Z
 |x::w,F,Z=>K1 w (F+x%2) ((F+x%2) - ((F+x%2) - (Z+x/2)))
noncomputable def NY:List Nat->List Nat
 |[]=>[0]
 |x::w=>K1 (x::w) 0 0::NY w
noncomputable def j4(κ L op:List Nat):Bool:=decide L.Nodup&&(L.all λk=>Nat.blt k 6&&Nat.blt 0 (κ.getD k 0))&&(sameAll (Hs κ) L (JN L κ)&&Oh (pairsOf κ op) (NY κ))
noncomputable def EZ(κ:List Nat):Bool:=j4 κ ((Bh κ).1++(Bh κ).2) (Bh κ).2
theorem ZE:Gg 4 (λr=>EZ (0::0::r))=true:=by decide+kernel
theorem lG:Gg 4 (λr=>EZ (0::1::r))=true:=by decide+kernel
theorem gY:Gg 4 (λr=>EZ (0::2::r))=true:=by decide+kernel
theorem jU:Gg 4 (λr=>EZ (1::0::r))=true:=by decide+kernel
theorem YM:Gg 4 (λr=>EZ (1::1::r))=true:=by decide+kernel
theorem ZZ:Gg 4 (λr=>EZ (1::2::r))=true:=by decide+kernel
theorem YS:Gg 4 (λr=>EZ (2::0::r))=true:=by decide+kernel
theorem mB:Gg 4 (λr=>EZ (2::1::r))=true:=by decide+kernel
theorem cQ:Gg 4 (λr=>EZ (2::2::r))=true:=by decide+kernel
theorem c8(h6:κ.length=6)(h:∀x∈κ,x<3):EZ κ=true:=by
 cases κ with
 |nil=>cases h6
 |cons a r=>cases r with
  |nil=>cases h6
  |cons b r=>
   have hr:r.length=4:=Nat.succ.inj (Nat.succ.inj h6)
   have hx:∀x∈r,x<3:= λx hx=>h x (.tail _ (.tail _ hx))
   refine W6 (P:= λa=>EZ (a::b::r)=true) ?_ ?_ ?_ (h a (.head _))<;>refine W6 (P:= λb=>EZ (_::b::r)=true) ?_ ?_ ?_ (h b (.tail _ (.head _)))
   ·exact GI ZE hr hx
   ·exact GI lG hr hx
   ·exact GI gY hr hx
   ·exact GI jU hr hx
   ·exact GI YM hr hx
   ·exact GI ZZ hr hx
   ·exact GI YS hr hx
   ·exact GI mB hr hx
   ·exact GI cQ hr hx
theorem aE:∀(r:List Nat) (a:Nat),r.foldl min a∈a::r/\∀x∈a::r,r.foldl min a<=x:=by
 intro Al
 induction Al with
 |nil=>
  intro a
  exact⟨List.mem_singleton.mpr rfl,λx hx=>by rw[List.mem_singleton.mp hx];exact Nat.le_refl _⟩
 |cons b r ih=>
  intro a
  obtain⟨h1,h2⟩:=ih (min a b)
  rw[List.foldl_cons]
  refine⟨?_,λx hx=>?_⟩
  ·obtain h|h:=List.mem_cons.mp h1
   ·rw[h]
    by_cases c:a<=b
    ·rw[Nat.min_eq_left c];exact List.mem_cons_self
    ·rw[Nat.min_eq_right (by exact Ac 0x14c011115a1101 Aa c)];exact List.mem_cons_of_mem _ List.mem_cons_self
   ·exact List.mem_cons_of_mem _ (List.mem_cons_of_mem _ h)
  ·have h0:=h2 _ List.mem_cons_self
   obtain rfl|hx:=List.mem_cons.mp hx
   ·exact Ap 0x14c112114a012114a1101 Aa h0 (Nat.min_le_left _ _)
   ·obtain rfl|hx:=List.mem_cons.mp hx
    ·exact Ap 0x14c112114a012114a1101 Aa h0 (Nat.min_le_right _ _)
    ·exact h2 x (List.mem_cons_of_mem _ hx)
theorem fU(h1:m∈L)(h2:∀x∈L,m<=x):Hi L=m:=by
 cases L with
 |nil=>cases h1
 |cons a r=>
  obtain⟨k1,k2⟩:=aE r a
  exact Nat.le_antisymm (k2 m h1) (h2 _ k1)
theorem TA(l:List Nat)(u j:Nat):((l.take (u+j)).drop u).sum=Fs (λt=>l.getD t 0) u j:=by
 induction j with
 |zero=>
  rw[List.drop_eq_nil_of_le (by rw[List.length_take];exact Ac 0x14c110114a4021101 Aa (Nat.min_le_left _ _))];rfl
 |succ j ih=>
  show _=Fs (λt=>l.getD t 0) u j+l.getD (u+j) 0
  rw[<-ih,<-Nat.add_assoc,List.take_add_one,List.getD_eq_getElem?_getD]
  cases h:l[u+j]? with
  |none=>rw[Option.toList_none,List.append_nil];rfl
  |some a=>
   have:=(List.getElem?_eq_some_iff.mp h).1
   rw[List.drop_append_of_le_length (by rw[List.length_take];exact Bm (λA6 Af=>Ap 0x14c011115b4211101 Aa Af) (λA6 Af=>A7 0x14c012116a114312115b1101 Aa this Af)),List.sum_append]
   simp
theorem fS{v:Nat}(h:u<=v)(h':v<=n):(u,v)∈Ek n:=
 List.mem_flatMap.mpr ⟨u,List.mem_range.mpr (by exact Ap 0x16c412210114a211114a1101 Aa h' h),List.mem_map.mpr ⟨v - u,List.mem_range.mpr (by exact AW 0x16c410114a312114a411414123114b2141101 Aa h' Bl (Nat.sub_add_cancel (Ac 0x14c110114a1101 Aa h))),by rw[show u+(v - u)=v by exact Nat.le_antisymm (Ap 0x14c214011114b2141101 Aa (Nat.sub_add_cancel (Ac 0x14c110114a1101 Aa h))) (Ap 0x14c411210114a4211101 Aa Bl)]⟩⟩
theorem SD(κ A:List Nat){v:Nat}(h:u<=v)(h':v<=n):JO κ A n (u,v)=A.getD u 0+Fs (λt=>(Dw κ).getD t 0) u (v - u)+Fs (λt=>(E3 κ).getD t 0) v (n - v):=by
 obtain⟨i,rfl⟩:∃i,v=u+i:=⟨v - u,by exact Nat.le_antisymm (Ap 0x14c411210114a4211101 Aa Bl) (Ap 0x14c214011114b2141101 Aa (Nat.sub_add_cancel (Ac 0x14c110114a1101 Aa h)))⟩
 obtain⟨j,rfl⟩:∃j,n=u+i+j:=⟨n - (u+i),by exact Nat.le_antisymm (A7 0x14c411431210114a4431211101 Aa Bl) (A7 0x14c314014211114b3144211101 Aa (Nat.sub_add_cancel (Ap 0x14c214110114a2141101 Aa h')))⟩
 rw[show u+i - u=i by exact Nat.le_antisymm (Ap 0x14c210114b4211141101 Aa (Nat.sub_add_cancel (Ac 0x14c4110101 Aa))) (Ap 0x14c211114a4012141101 Aa Bl),show u+i+j - (u+i)=j by exact Nat.le_antisymm (A7 0x14c310114b4314211144211101 Aa (Nat.sub_add_cancel (Ap 0x14c4214110141101 Aa))) (A7 0x14c312114a4411013142141101 Aa Bl),<-TA,<-TA]
 rfl
theorem VY(κ A:List Nat)(n:Nat):Hz κ A n=Yr (λt=>A.getD t 0) (λt=>(Dw κ).getD t 0) (λt=>(E3 κ).getD t 0) n:=by
 refine fU ?_ λx hx=>?_
 ·refine GV (eB (λt=>A.getD t 0) (λt=>(Dw κ).getD t 0) (λt=>(E3 κ).getD t 0) n) λu v hu hv e=>?_
  rw[e,<-SD κ A hu hv]
  exact List.mem_map_of_mem (fS hu hv)
 ·refine Ak (List.mem_map.mp hx) λBB hp Ar=>?_;obtain⟨u,v⟩:=BB;obtain rfl:=Ar
  obtain⟨hu,hv⟩:=Tq hp
  rw[SD κ A hu hv]
  exact YC _ _ _ hu hv
theorem kG(h:Nat->Nat):Hi ((List.range 7).map h)=D2 6 h:=rfl
theorem SQ{N:List Str}{s e:Nat}(b:Bool)(h:s<=e)(he:e<=N.length):Cc b ((N.take e).drop s)=(if min e (s+b.toNat)=s then none else N[s]?,(N.take e).drop (min e (s+b.toNat))):=by
 cases b with
 |false=>
  rw[show min e (s+false.toNat)=s by simp;exact Bm (λA6 Af=>Nat.le_antisymm (Ac 0x14c110114a1101 Aa (Nat.min_le_right _ _)) (Ap 0x14c012114a112115b1101 Aa h Af)) (λA6 Af=>Nat.le_antisymm (Ac 0x14c110114b1101 Aa Af) (Ac 0x14c011115b1101 Aa Af)),if_pos rfl];rfl
 |true=>
  rw[show s+true.toNat=s+1 from rfl]
  by_cases c:s=e
  ·subst c
   rw[show min s (s+1)=s by exact Bm (λA6 Af=>Nat.le_antisymm (Ac 0x14c110114b1101 Aa Af) (Ac 0x14c011115b1101 Aa Af)) (λA6 Af=>Nat.le_antisymm (Ac 0x04c011114a0141201 Aa A6) (Ac 0x14c011115b4121101 Aa Af)),if_pos rfl,List.drop_eq_nil_of_le (by rw[List.length_take];exact Ac 0x14c110114a1101 Aa (Nat.min_le_left _ _))];rfl
  ·have hs:s<(N.take e).length:=by rw[List.length_take];exact(Nat.lt_or_gt_of_ne c).elim (λA6=>Bm (λAS Am=>Ap 0x16c012116a112115b1101 Aa A6 Am) (λAS Am=>A7 0x16c012114a113116a312115b1101 Aa he A6 Am)) (λA6=>Ap 0x06c211114a011116a1101 Aa h A6)
   rw[show min e (s+1)=s+1 by exact Bm (λA6 Af=>(Nat.lt_or_gt_of_ne c).elim (λAS=>Nat.le_antisymm (Ac 0x14c412110114a4121101 Aa (Nat.min_le_right _ _)) (Ap 0x14c214120115b112116a1101 Aa Af AS)) (λAS=>Nat.le_antisymm (Ap 0x14c412112114b012116a1101 Aa Af AS) (Ap 0x04c214121114a011116a1101 Aa h AS))) (λA6 Af=>Nat.le_antisymm (Ac 0x14c412110114b4121101 Aa Af) (Ac 0x14c014121115b4121101 Aa Af)),if_neg (by exact λBk=>Ah 0x14b0141201 Aa Bk),List.drop_eq_getElem_cons hs,List.getElem_take,List.getElem?_eq_getElem (by exact(Nat.lt_or_gt_of_ne c).elim (λA6=>Ap 0x16c210114a211116a1101 Aa he A6) (λA6=>Ap 0x06c211114a011116a1101 Aa h A6):s<N.length)];rfl
theorem lA{N:List Str}{y s s':Nat}(h:y<=s)(hs:s'=s∨s'=s+1)(hl:s'<=N.length):GB ((N.take s).drop y) (if s'=s then none else N[s]?)=(N.take s').drop y:=by
 obtain rfl|rfl:=hs
 ·rw[if_pos rfl];rfl
 ·rw[if_neg (by exact λBk=>Ah 0x14b0141201 Aa Bk),List.take_add_one,List.getElem?_eq_getElem (by exact Ac 0x16c110114a1141201 Aa hl:s<N.length),List.drop_append_of_le_length (by rw[List.length_take];exact Bm (λA6 Af=>Ap 0x14c012114a112115b1101 Aa h Af) (λA6 Af=>A7 0x14c012114a114123114a312115b1101 Aa hl h Af))];rfl
theorem aK{N:List Str}{y y':Nat}(hg:g.length=y)(hy:y'=y∨y'=y+1)(hl:y'<=N.length):Iu g h (if y'=y then none else N[y]?)=g++((N.take y').drop g.length).map λs=>(s,h):=by
 subst hg
 obtain rfl|rfl:=hy
 ·rw[if_pos rfl,List.drop_eq_nil_of_le (by rw[List.length_take];exact Ac 0x14c110114a1101 Aa (Nat.min_le_left _ _)),List.map_nil,List.append_nil];rfl
 ·rw[if_neg (by exact λBk=>Ah 0x14b0141201 Aa Bk),List.take_add_one,List.getElem?_eq_getElem (by exact Ac 0x16c110114a1141201 Aa hl:g.length<N.length),List.drop_append_of_le_length (by rw[List.length_take];exact Bm (λA6 Af=>Ac 0x14c011115b1101 Aa Af) (λA6 Af=>Ap 0x14c012114a114122115b1101 Aa hl Af)),List.drop_eq_nil_of_le (by rw[List.length_take];exact Ac 0x14c110114a1101 Aa (Nat.min_le_left _ _))];rfl
structure LineAt (N:List Str) (a X Y:Nat) (x:Two):Prop where
 p1:x.p1=(N.take a).drop X
 p2:x.p2=(N.take X).drop Y
 g:x.gone.length=Y
 yx:Y<=X
 xa:X<=a
 an:a<=N.length
theorem VC{a x r:Nat}(h:r=min a (x+b.toNat))(hx:x<=a):r=x∨r=x+1:=by
 subst h
 cases b
 ·exact .inl (Nat.min_eq_right hx)
 ·exact(Nat.lt_or_ge x a).elim (λl=>.inr (Nat.min_eq_right l)) λl=>.inl ((Nat.min_eq_left (Nat.le_succ_of_le l)).trans (Nat.le_antisymm l hx))
theorem WY{x r:Nat}(h:r=x∨r=x+1):x<=r:=h.elim (λe=>e▸Nat.le_refl _) λe=>e▸Nat.le_succ _
theorem LineAt.hour{N:List Str}{a X Y:Nat}{x:Two}(h:LineAt N a X Y x){O:List Int}{c:List Str}{a' X' Y':Nat}(hc:N.take a'=N.take a++c)(ha:a<=a')(hl:a'<=N.length)(hX:X'=min a' (X+(decide ((t:Int)∈O)).toNat))(hY:Y'=min X' (Y+(decide ((t:Int)∈T)).toNat)):
 LineAt N a' X' Y' (x.hour O T t c)/\(x.hour O T t c).gone=x.gone++((N.take Y').drop x.gone.length).map λs=>(s,t):=by
 obtain⟨h1,h2,h3,h4,h5,h6⟩:=h
 have e1:x.p1++c=(N.take a').drop X:=by
  rw[h1,hc,List.drop_append_of_le_length (by rw[List.length_take];exact Bm (λA6 Af=>Ap 0x14c012114a112115b1101 Aa h5 Af) (λA6 Af=>A7 0x14c012114a113114a312115b1101 Aa h6 h5 Af))]
 have q1:=VC hX (Nat.le_trans h5 ha)
 have q2:=VC hY (Nat.le_trans h4 (WY q1))
 have e2:Cc (decide ((t:Int)∈O)) (x.p1++c)=(if X'=X then none else N[X]?,(N.take a').drop X'):=by
  rw[e1,SQ _ (by exact Ap 0x14c112114a012114a1101 Aa h5 ha) hl,<-hX]
 have e3:GB x.p2 (if X'=X then none else N[X]?)=(N.take X').drop Y:=by
  rw[h2]
  exact lA h4 q1 (by exact A7 0x14c213114b013114a211114a1101 Aa hX hl (Nat.min_le_left _ _))
 have e4:Cc (decide ((t:Int)∈T)) ((N.take X').drop Y)=(if Y'=Y then none else N[Y]?,(N.take X').drop Y'):=by
  rw[SQ _ (by exact Bm (λA6 Af=>Dy 0x14c314114a215114a514115b013114a112115b1101 Aa h5 h4 hX ha Af) (λA6 Af=>AW 0x14c314114a114115b013115b4211101 Aa h4 hX Af)) (by exact A7 0x14c213114b013114a211114a1101 Aa hX hl (Nat.min_le_left _ _)),<-hY]
 have e5:x.hour O T t c=⟨(N.take a').drop X',(N.take X').drop Y',Iu x.gone t (if Y'=Y then none else N[Y]?)⟩:=by
  unfold Two.hour
  simp only[e2,e3,e4]
 have e6:=aK (N:=N) (h:=t) h3 (y':=Y') q2 (by exact Dy 0x14c415114b215114b013114a411114a312114a1101 Aa hY hX hl (Nat.min_le_left _ _) (Nat.min_le_left _ _))
 rw[e5]
 refine⟨⟨rfl,rfl,?_,by exact Ap 0x14c112114b012114a1101 Aa hY (Nat.min_le_left _ _),by exact Ap 0x14c112114b012114a1101 Aa hX (Nat.min_le_left _ _),hl⟩,e6⟩
 rw[e6,List.length_append,List.length_map,List.length_drop,List.length_take,h3,Nat.min_eq_left (by exact Dy 0x14c415114b215114b013114a411114a312114a1101 Aa hY hX hl (Nat.min_le_left _ _) (Nat.min_le_left _ _)),Nat.add_sub_cancel' (WY q2)]
theorem TM(cs:List (List Str))(t:Nat):cs.flatten.take ((cs.take t).map List.length).sum=(cs.take t).flatten:=by
 have e:cs.flatten=(cs.take t).flatten++(cs.drop t).flatten:=by rw[<-List.flatten_append,List.take_append_drop]
 rw[e,<-List.length_flatten,List.take_left']
 rfl
theorem nK{c:List Str}(h:cs[t]? =some c):(cs.take (t+1)).flatten=(cs.take t).flatten++c:=by
 rw[List.take_add_one,h,List.flatten_append];simp
theorem eL(cs:List (List Str))(t:Nat):((cs.take t).map List.length).sum<=cs.flatten.length:=by
 have e:cs.flatten=(cs.take t).flatten++(cs.drop t).flatten:=by rw[<-List.flatten_append,List.take_append_drop]
 rw[e,<-List.length_flatten,List.length_append];exact Ac 0x14c4110101 Aa
theorem Rp(cs:List (List Str))(h:t<7):(Bo cs).getD t 0=((cs.take t).map List.length).sum:=by
 unfold Bo
 rw[List.getD_eq_getElem?_getD,List.getElem?_map,List.getElem?_range h];rfl
theorem PX{c:List Str}(ht:t<6)(h:cs[t]? =some c):cs.flatten.take ((Bo cs).getD (t+1) 0)=cs.flatten.take ((Bo cs).getD t 0)++c/\(Bo cs).getD t 0<=(Bo cs).getD (t+1) 0/\(Bo cs).getD (t+1) 0<=cs.flatten.length:=by
 rw[Rp cs (by exact Ah 0x16c724120116a6201 Aa ht),Rp cs (by exact Ah 0x16c720116a6201 Aa ht),TM,TM,nK h]
 refine⟨rfl,?_,eL cs _⟩
 rw[List.take_add_one,List.map_append,List.sum_append];exact Ac 0x14c4110101 Aa
theorem seg_end{N:List Str}{X Y:Nat}(h:Y<=X)(h':X<=N.length):(N.take X).drop Y++N.drop X=N.drop Y:=by
 have:=List.drop_append_of_le_length (l₁:=N.take X) (l₂:=N.drop X) (i:=Y) (by rw[List.length_take];exact Bm (λA6 Af=>Ap 0x14c012114a112115b1101 Aa h Af) (λA6 Af=>A7 0x14c012114a113114a312115b1101 Aa h' h Af))
 rw[List.take_append_drop] at this
 exact this.symm
theorem aO{O:List Int}{c3:List Str}{f g:Nat->Nat}(hf:∀t:Nat,t<6->(decide ((t:Int)∈O)).toNat=f t)(hg:∀t:Nat,t<6->(decide ((t:Int)∈T)).toNat=g t)
 (hY:∀n,n<=6->Yr (λt=>(Bo [c0,c1,c2,c3,c4,c5]).getD t 0) f g n=Hz κ (Bo [c0,c1,c2,c3,c4,c5]) n):
 (Two.run O T c0 c1 c2 c3 c4 c5).gone=CQ κ (Bo [c0,c1,c2,c3,c4,c5]) [c0,c1,c2,c3,c4,c5].flatten/\(Two.run O T c0 c1 c2 c3 c4 c5).p2++(Two.run O T c0 c1 c2 c3 c4 c5).p1=[c0,c1,c2,c3,c4,c5].flatten.drop (CQ κ (Bo [c0,c1,c2,c3,c4,c5]) [c0,c1,c2,c3,c4,c5].flatten).length/\
 (CQ κ (Bo [c0,c1,c2,c3,c4,c5]) [c0,c1,c2,c3,c4,c5].flatten).length=Yr (λt=>(Bo [c0,c1,c2,c3,c4,c5]).getD t 0) f g 6:=by
 have st:∀{t:Nat} {x:Two} {c:List Str},t<6->[c0,c1,c2,c3,c4,c5].flatten.take ((Bo [c0,c1,c2,c3,c4,c5]).getD (t+1) 0)=[c0,c1,c2,c3,c4,c5].flatten.take ((Bo [c0,c1,c2,c3,c4,c5]).getD t 0)++c->(Bo [c0,c1,c2,c3,c4,c5]).getD t 0<=(Bo [c0,c1,c2,c3,c4,c5]).getD (t+1) 0->(Bo [c0,c1,c2,c3,c4,c5]).getD (t+1) 0<=[c0,c1,c2,c3,c4,c5].flatten.length->
  LineAt [c0,c1,c2,c3,c4,c5].flatten ((Bo [c0,c1,c2,c3,c4,c5]).getD t 0) (Xr (λt=>(Bo [c0,c1,c2,c3,c4,c5]).getD t 0) f t) (Yr (λt=>(Bo [c0,c1,c2,c3,c4,c5]).getD t 0) f g t) x->
  LineAt [c0,c1,c2,c3,c4,c5].flatten ((Bo [c0,c1,c2,c3,c4,c5]).getD (t+1) 0) (Xr (λt=>(Bo [c0,c1,c2,c3,c4,c5]).getD t 0) f (t+1)) (Yr (λt=>(Bo [c0,c1,c2,c3,c4,c5]).getD t 0) f g (t+1)) (x.hour O T t c)/\
  (x.hour O T t c).gone=Fq κ (Bo [c0,c1,c2,c3,c4,c5]) [c0,c1,c2,c3,c4,c5].flatten x.gone t:=by
  intro t x c ht h1 h2 h3 h4
  obtain⟨k1,k2⟩:=h4.hour (O:=O) (T:=T) (t:=t) h1 h2 h3 rfl rfl
  rw[hf t ht,hg t ht] at k1 k2
  refine⟨k1,k2.trans ?_⟩
  unfold Fq
  rw[<-hY (t+1) (by exact Ah 0x14c624120116a6201 Aa ht)]
  rfl
 have go:∀{t:Nat} {x:Two} {c:List Str},t<6->[c0,c1,c2,c3,c4,c5][t]? =some c->_:= λ{t x c} ht hc=>st (x:=x) ht (PX ht hc).1 (PX ht hc).2.1 (PX ht hc).2.2
 have i0:LineAt [c0,c1,c2,c3,c4,c5].flatten ((Bo [c0,c1,c2,c3,c4,c5]).getD 0 0) (Xr (λt=>(Bo [c0,c1,c2,c3,c4,c5]).getD t 0) f 0) (Yr (λt=>(Bo [c0,c1,c2,c3,c4,c5]).getD t 0) f g 0) ⟨[],[],[]⟩:=⟨rfl,rfl,rfl,Nat.le_refl _,Nat.le_refl _,Nat.zero_le _⟩
 obtain⟨i1,g1⟩:=go (t:=0) (by exact AE 0x16c6202 Aa) rfl i0
 obtain⟨i2,g2⟩:=go (t:=1) (by exact AE 0x16c6212 Aa) rfl i1
 obtain⟨i3,g3⟩:=go (t:=2) (by exact AE 0x16c6222 Aa) rfl i2
 obtain⟨i4,g4⟩:=go (t:=3) (by exact AE 0x16c6232 Aa) rfl i3
 obtain⟨i5,g5⟩:=go (t:=4) (by exact AE 0x16c6242 Aa) rfl i4
 obtain⟨i6,g6⟩:=go (t:=5) (by exact AE 0x16c6252 Aa) rfl i5
 have ge:(Two.run O T c0 c1 c2 c3 c4 c5).gone=CQ κ (Bo [c0,c1,c2,c3,c4,c5]) [c0,c1,c2,c3,c4,c5].flatten:=by
  unfold Two.run
  rw[g6,g5,g4,g3,g2,g1]
  rfl
 have KU:LineAt [c0,c1,c2,c3,c4,c5].flatten ((Bo [c0,c1,c2,c3,c4,c5]).getD 6 0) (Xr (λt=>(Bo [c0,c1,c2,c3,c4,c5]).getD t 0) f 6) (Yr (λt=>(Bo [c0,c1,c2,c3,c4,c5]).getD t 0) f g 6) (Two.run O T c0 c1 c2 c3 c4 c5):=i6
 have a6:(Bo [c0,c1,c2,c3,c4,c5]).getD 6 0=[c0,c1,c2,c3,c4,c5].flatten.length:=by
  rw[Rp _ (by exact AE 0x16c7262 Aa),List.length_flatten];rfl
 refine⟨ge,?_,by rw[<-ge];exact KU.g⟩
 rw[<-ge,KU.g,KU.p1,KU.p2,a6,List.take_of_length_le (Nat.le_refl _)]
 have x6:=KU.xa
 rw[a6] at x6
 have y6:=KU.yx
 exact seg_end y6 x6
noncomputable def Ct:List (Nat×Str)->List Nat->List (Nat×Str)
 |[],_=>[]
 |(h,s)::q,O=>match O.dropWhile (λx=>decide (x<h)) with
  |[]=>[]
  |a::O'=>(a,s)::Ct q O'
noncomputable def FG(p:Nat×Str):Str×Nat:=(p.2,p.1)
theorem YJ:∀q:List (Nat×Str),Ct q []=[]:=by
 intro Al
 induction Al with
 |nil=>
  exact rfl
 |cons zx _ zih=>
  obtain⟨_,_⟩:=zx
  exact rfl
theorem Uv:∀(q:List (Nat×Str)) (T:List Nat) (g:List (Str×Nat)),Ee q [] T g=g:=by
 intro Al
 induction Al with
 |nil=>
  intro _ _
  exact rfl
 |cons zx q zih=>
  obtain⟨_,_⟩:=zx
  intro T g
  exact zih T g
theorem fJ:∀(q:List (Nat×Str)) (O:List Nat) (g:List (Str×Nat)),Ee q O [] g=g:=by
 intro Al
 induction Al with
 |nil=>
  intro _ _
  exact rfl
 |cons zx q zih=>
  obtain⟨h,s⟩:=zx
  intro O g
  show Ee q (DY h O []).2.1 (DY h O []).2.2 (IQ g s (DY h O []).1)=g
  unfold DY
  cases O.dropWhile (λx=>decide (x<h)) with
  |nil=>exact Uv q [] g
  |cons a r=>exact zih r g
theorem fR:∀(q:List (Nat×Str)) (O T:List Nat) (g:List (Str×Nat)),Ee q O T g=g++(Ct (Ct q O) T).map FG:=by
 intro Al
 induction Al with
 |nil=>
  intro _ _ g
  exact(List.append_nil g).symm
 |cons zx q zih=>
  obtain⟨h,s⟩:=zx
  intro O T g
  show Ee q (DY h O T).2.1 (DY h O T).2.2 (IQ g s (DY h O T).1)=g++(Ct (match O.dropWhile (λx=>decide (x<h)) with|[]=>[]|a::O'=>(a,s)::Ct q O') T).map FG
  unfold DY
  cases O.dropWhile (λx=>decide (x<h)) with
  |nil=>
   show Ee q [] T g=g++[]
   rw[Uv,List.append_nil]
  |cons a r=>
   show Ee q (match T.dropWhile (λx=>decide (x<a)) with|[]=>(none,r,[])|b::T'=>(some b,r,T')).2.1 (match T.dropWhile (λx=>decide (x<a)) with|[]=>(none,r,[])|b::T'=>(some b,r,T')).2.2 (IQ g s (match T.dropWhile (λx=>decide (x<a)) with|[]=>(none,r,[])|b::T'=>(some b,r,T')).1)=g++(match T.dropWhile (λx=>decide (x<a)) with|[]=>[]|b::T'=>(b,s)::Ct (Ct q r) T').map FG
   cases T.dropWhile (λx=>decide (x<a)) with
   |nil=>
    show Ee q r [] g=g++[]
    rw[fJ,List.append_nil]
   |cons b T'=>
    show Ee q r T' (g++[(s,b)])=g++(FG (b,s)::(Ct (Ct q r) T').map FG)
    rw[zih r T' (g++[(s,b)]),List.append_assoc];rfl
noncomputable def HQ(f:Nat->Bool):Nat->List Str->List (List Str)->List (Option Str)
 |_,_,[]=>[]
 |t,p,c::cs=>(Cc (f t) (p++c)).1::HQ f (t+1) (Cc (f t) (p++c)).2 cs
noncomputable def F7:Nat->List (List Str)->List (Nat×Str)
 |_,[]=>[]
 |t,c::cs=>AK t c++F7 (t+1) cs
noncomputable def EI(f:Nat->Bool):Nat->Nat->List Nat
 |_,0=>[]
 |t,n+1=>if f t=true then t::EI f (t+1) n else EI f (t+1) n
theorem c7(f:Nat->Bool):∀(n t:Nat),∀x∈EI f t n,t<=x:=by
 intro Al
 induction Al with
 |zero=>
  intro _ x h
  exact nomatch h
 |succ n ih=>
  intro t x h
  have ih:=ih (t+1)
  unfold EI at h
  split at h
  ·obtain rfl|h:=List.mem_cons.mp h
   ·exact Nat.le_refl _
   ·have:=ih x h;exact Ac 0x14c110114a1141201 Aa this
  ·have:=ih x h;exact Ac 0x14c110114a1141201 Aa this
theorem YY:∀(cs:List (List Str)) (t:Nat),∀p∈F7 t cs,t<=p.1:=by
 intro Al
 induction Al with
 |nil=>
  intro _ p h
  exact nomatch h
 |cons c cs ih=>
  intro t p h
  obtain h|h:=List.mem_append.mp h
  ·refine Ak (List.mem_map.mp h) λ_ _ Ar=>?_;obtain rfl:=Ar
   exact Nat.le_refl _
  ·have:=ih (t+1) p h;exact Ac 0x14c110114a1141201 Aa this
theorem WO(hO:∀x∈O,h<=x):O.dropWhile (λx=>decide (x<h))=O:=by
 cases O with
 |nil=>rfl
 |cons a r=>
  rw[List.dropWhile_cons_of_neg]
  have:=hO a List.mem_cons_self
  simp;exact Ac 0x14c110114a1101 Aa this
theorem SP{q:List (Nat×Str)}:∀{p:List Str} {O:List Nat},(∀x∈O,t+1<=x)->Ct (AK t p++q) O=Ct (AK (t+1) p++q) O:=by
 intro Al
 induction Al with
 |nil=>
  intro _ _
  exact rfl
 |cons s p ih=>
  intro O h
  show(match O.dropWhile (λx=>decide (x<t)) with|[]=>[]|a::O'=>(a,s)::Ct (AK t p++q) O')=(match O.dropWhile (λx=>decide (x<t+1)) with|[]=>[]|a::O'=>(a,s)::Ct (AK (t+1) p++q) O')
  rw[WO h,WO λx hx=>Nat.le_of_succ_le (h x hx)]
  cases O with
  |nil=>rfl
  |cons a r=>
   show(a,s)::_=(a,s)::_
   rw[ih λx hx=>h x (List.mem_cons_of_mem _ hx)]
theorem iT{q:List (Nat×Str)}(h:∀p∈q,t+1<=p.1):Ct q (t::O)=Ct q O:=by
 cases q with
 |nil=>rfl
 |cons p q=>
  obtain⟨k,s⟩:=p
  have:=h _ List.mem_cons_self
  show(match(t::O).dropWhile (λx=>decide (x<k)) with|[]=>[]|a::O'=>(a,s)::Ct q O')=(match O.dropWhile (λx=>decide (x<k)) with|[]=>[]|a::O'=>(a,s)::Ct q O')
  rw[List.dropWhile_cons_of_pos (by simp;dsimp only at this;exact Ac 0x16c110114a1141201 Aa this)]
theorem UI(f:Nat->Bool):∀(cs:List (List Str)) (t:Nat) (p:List Str),Ct (AK t p++F7 t cs) (EI f t cs.length)=F7 t ((HQ f t p cs).map Option.toList):=by
 intro Al
 induction Al with
 |nil=>
  intro t p
  show Ct _ []=[]
  exact YJ _
 |cons c cs ih=>
  intro t p
  have e0:AK t p++F7 t (c::cs)=AK t (p++c)++F7 (t+1) cs:=by
   show AK t p++(AK t c++_)=_
   rw[<-List.append_assoc]
   unfold AK
   rw[List.map_append]
  rw[e0]
  show Ct _ (if f t=true then t::EI f (t+1) cs.length else EI f (t+1) cs.length)=AK t (Cc (f t) (p++c)).1.toList++F7 (t+1) ((HQ f (t+1) (Cc (f t) (p++c)).2 cs).map Option.toList)
  rw[<-ih (t+1)]
  have ge:=c7 f cs.length (t+1)
  have qe:=YY cs (t+1)
  generalize EI f (t+1) cs.length=O at*
  generalize F7 (t+1) cs=q at*
  generalize p++c=w
  cases hf:f t with
  |false=>
   rw[if_neg Bool.false_ne_true,SP ge]
   rfl
  |true=>
   rw[if_pos rfl]
   cases w with
   |nil=>exact iT qe
   |cons s r=>
    show(match(t::O).dropWhile (λx=>decide (x<t)) with|[]=>[]|a::O'=>(a,s)::Ct (AK t r++q) O')=(t,s)::([]++Ct (AK (t+1) r++q) O)
    rw[List.dropWhile_cons_of_neg (by simp)]
    show(t,s)::Ct (AK t r++q) O=_
    rw[SP ge]
    rfl
noncomputable def Oz(O T:List Int):Nat->Two->List (List Str)->Two
 |_,x,[]=>x
 |t,x,c::cs=>Oz O T (t+1) (x.hour O T t c) cs
theorem kF(p:List Str)(o:Option Str):GB p o=p++o.toList:=by
 cases o with
 |none=>exact(List.append_nil p).symm
 |some v=>rfl
theorem dU(g:List (Str×Nat))(t:Nat)(o:Option Str):Iu g t o=g++(AK t o.toList).map FG:=by
 cases o with
 |none=>exact(List.append_nil g).symm
 |some v=>rfl
theorem nC{O:List Int}{f g:Nat->Bool}:∀{cs:List (List Str)} {t:Nat} {x:Two},(∀k,t<=k->k<t+cs.length->decide ((k:Int)∈O)=f k/\decide ((k:Int)∈T)=g k)->
 (Oz O T t x cs).gone=x.gone++(F7 t ((HQ g t x.p2 ((HQ f t x.p1 cs).map Option.toList)).map Option.toList)).map FG:=by
 intro Al
 induction Al with
 |nil=>
  intro _ x _
  exact(List.append_nil x.gone).symm
 |cons c cs zih=>
  intro t x h
  obtain⟨h1,h2⟩:=h t (Nat.le_refl _) (by simp)
  have ih:=zih (t:=t+1) (x:=x.hour O T t c) λk hk Dt=>h k (by exact Ac 0x14c110114a1141201 Aa hk) (by rw[List.length_cons];exact Ap 0x16c441221110116a4214121101 Aa Dt)
  show(Oz O T (t+1) (x.hour O T t c) cs).gone=_
  rw[ih]
  have e:x.hour O T t c=⟨(Cc (f t) (x.p1++c)).2,(Cc (g t) (x.p2++(Cc (f t) (x.p1++c)).1.toList)).2,x.gone++(AK t (Cc (g t) (x.p2++(Cc (f t) (x.p1++c)).1.toList)).1.toList).map FG⟩:=by
   unfold Two.hour
   simp only[h1,h2,kF,dU]
  rw[e]
  show(x.gone++_)++_=x.gone++(AK t (Cc (g t) (x.p2++(Cc (f t) (x.p1++c)).1.toList)).1.toList++F7 (t+1) _).map FG
  rw[List.append_assoc,List.map_append]
theorem WB(f:Nat->Bool):AA f=EI f 0 6:=by
 unfold AA
 show List.filter f [0,1,2,3,4,5]=_
 simp only[List.filter_cons,List.filter_nil]
 rfl
theorem jJ(f:Nat->Bool):∀(cs:List (List Str)) (t:Nat) (p:List Str),(HQ f t p cs).length=cs.length:=by
 intro Al
 induction Al with
 |nil=>
  intro _ _
  exact rfl
 |cons _ cs ih=>
  intro t _
  exact congrArg (· +1) (ih (t+1) _)
theorem i8{O:List Int}{f g:Nat->Bool}{c3:List Str}(h:∀k:Nat,k<6->decide ((k:Int)∈O)=f k/\decide ((k:Int)∈T)=g k):
 Ee (E1 [c0,c1,c2,c3,c4,c5]) (AA f) (AA g) []=(Two.run O T c0 c1 c2 c3 c4 c5).gone:=by
 have e1:E1 [c0,c1,c2,c3,c4,c5]=AK 0 []++F7 0 [c0,c1,c2,c3,c4,c5]:=rfl
 have k1:=UI f [c0,c1,c2,c3,c4,c5] 0 []
 have k2:=UI g ((HQ f 0 [] [c0,c1,c2,c3,c4,c5]).map Option.toList) 0 []
 rw[List.length_map,jJ] at k2
 have k3:=nC (O:=O) (T:=T) (f:=f) (g:=g) (cs:=[c0,c1,c2,c3,c4,c5]) (t:=0) (x:=⟨[],[],[]⟩) λk _ hk=>h k (by simpa using hk)
 rw[fR,WB,WB,e1]
 show[]++(Ct (Ct _ (EI f 0 6)) (EI g 0 6)).map FG=(Oz O T 0 ⟨[],[],[]⟩ [c0,c1,c2,c3,c4,c5]).gone
 rw[k3]
 show[]++(Ct (Ct _ (EI f 0 [c0,c1,c2,c3,c4,c5].length)) (EI g 0 6)).map FG=_
 rw[k1]
 show[]++(Ct (AK 0 []++F7 0 ((HQ f 0 [] [c0,c1,c2,c3,c4,c5]).map Option.toList)) (EI g 0 [c0,c1,c2,c3,c4,c5].length)).map FG=_
 rw[k2]
theorem Qu:∀{a b:List Nat},Oh a b=true->a=b
 |[],[],_=>rfl
 |x::r,y::s,h=>by
  obtain⟨h1,h2⟩:=Bool.and_eq_true_iff.mp h
  rw[Nat.eq_of_beq_eq_true h1,Qu h2]
 |[],_::_,h=>nomatch h
 |_::_,[],h=>nomatch h
theorem Qz:∀{a b:List (List Nat)},MI a b=true->a=b
 |[],[],_=>rfl
 |x::r,y::s,h=>by
  obtain⟨h1,h2⟩:=Bool.and_eq_true_iff.mp h
  rw[Qu h1,Qz h2]
 |[],_::_,h=>nomatch h
 |_::_,[],h=>nomatch h
noncomputable def w1(w:List Nat)(t:Nat):Nat:=w.getD t 0%2
noncomputable def w2(w:List Nat)(t:Nat):Nat:=w.getD t 0/2
theorem kU(a b:Nat):a - (a - b)=min a b:=by exact Bm (λA6 Af=>HT (λAS Am=>HT (λBq A0=>Nat.le_antisymm (A7 0x14c310115b213114b2141101 Aa Af Am) (AW 0x14c310114b214114114a441312114a1101 Aa A0 Bl (Nat.min_le_right _ _))) (λBq A0=>Nat.le_antisymm (A7 0x14c310115b213114b2141101 Aa Af Am) (A7 0x14c113114b013114b022114a4211101 Aa Af A0 Bl))) (λAS Am=>HT (λBq A0=>Nat.le_antisymm (Ac 0x14c110114b0201 Aa Am) (AW 0x14c310114b214114114a441312114a1101 Aa A0 Bl (Nat.min_le_right _ _))) (λBq A0=>Nat.le_antisymm (Ac 0x14c110114b0201 Aa Am) (A7 0x14c113114b013114b022114a4211101 Aa Af A0 Bl)))) (λA6 Af=>Nat.le_antisymm (AW 0x14c410115b314114a431112114b2141101 Aa Af Bl (Nat.sub_add_cancel (Ac 0x14c110114a1101 Aa (Nat.sub_le _ _)))) (AW 0x14c314114b114114a401312114b2141101 Aa Af Bl (Nat.sub_add_cancel (Ac 0x14c110114a1101 Aa A6))))
theorem QC(w:List Nat)(u j:Nat):Zs (w1 w) (w2 w) u (j+1)=(Fs (w1 w) u j+w.getD (u+j) 0%2) - ((Fs (w1 w) u j+w.getD (u+j) 0%2) - (Zs (w1 w) (w2 w) u j+w.getD (u+j) 0/2)):=(kU _ _).symm
theorem P4{w:List Nat}(h:k<w.length):w.drop k=w.getD k 0::w.drop (k+1):=by
 rw[List.drop_eq_getElem_cons h,List.getD_eq_getElem?_getD,List.getElem?_eq_getElem h];rfl
theorem bH{w:List Nat}(hl:w.length=w'.length)(h:HI (w.drop u) 0 0=HI (w'.drop u) 0 0):∀j,u+j<=w.length->Zs (w1 w) (w2 w) u j=Zs (w1 w') (w2 w') u j/\HI (w.drop (u+j)) (Fs (w1 w) u j) (Zs (w1 w) (w2 w) u j)=HI (w'.drop (u+j)) (Fs (w1 w') u j) (Zs (w1 w') (w2 w') u j):=by
 intro Al
 induction Al with
 |zero=>
  intro _
  exact⟨rfl,h⟩
 |succ j zih=>
  intro hj
  obtain⟨_,e2⟩:=zih (by exact Ap 0x14c214110114a2144121101 Aa hj)
  rw[P4 (by exact Ap 0x16c214110114a2144121101 Aa hj:u+j<w.length),P4 (by exact A7 0x16c114312114a014412312114b1101 Aa hj hl:u+j<w'.length)] at e2
  obtain⟨k1,k2⟩:=List.cons.inj e2
  rw[<-QC,<-QC] at k1 k2
  exact⟨k1,k2⟩
theorem Wm:∀{w w':List Nat},Hs w=Hs w'->∀u,HI (w.drop u) 0 0=HI (w'.drop u) 0 0
 |[],[],_,u=>rfl
 |x::w,y::w',h,0=>(List.cons.inj h).1
 |x::w,y::w',h,u+1=>Wm (List.cons.inj h).2 u
 |[],_::_,h,_=>nomatch h
 |_::_,[],h,_=>nomatch h
theorem dT{w:List Nat}(hl:w.length=w'.length)(h:Hs w=Hs w')(hj:u+j<=w.length):Zs (w1 w) (w2 w) u j=Zs (w1 w') (w2 w') u j:=(bH hl (Wm h u) j hj).1
theorem l8(w:List Nat)(u:Nat):∀j,u+j<=w.length->K1 (w.drop u) 0 0=K1 (w.drop (u+j)) (Fs (w1 w) u j) (Zs (w1 w) (w2 w) u j):=by
 intro Al
 induction Al with
 |zero=>
  intro _
  exact rfl
 |succ j zih=>
  intro hj
  rw[zih (by exact Ap 0x14c214110114a2144121101 Aa hj),P4 (by exact Ap 0x16c214110114a2144121101 Aa hj:u+j<w.length)]
  show K1 (w.drop (u+j+1)) (Fs (w1 w) u j+w.getD (u+j) 0%2) ((Fs (w1 w) u j+w.getD (u+j) 0%2) - ((Fs (w1 w) u j+w.getD (u+j) 0%2) - (Zs (w1 w) (w2 w) u j+w.getD (u+j) 0/2)))=_
  rw[<-QC];rfl
theorem WM:∀(w:List Nat) (u:Nat),u<=w.length->(NY w).getD u 0=K1 (w.drop u) 0 0
 |[],0,_=>rfl
 |x::w,0,_=>rfl
 |x::w,u+1,h=>WM w u (by simpa using h)
theorem bO{w:List Nat}(h:u<=w.length):(NY w).getD u 0=Zs (w1 w) (w2 w) u (w.length - u):=by
 rw[WM w u h,l8 w u (w.length - u) (by exact Ap 0x14c214011114b2141101 Aa (Nat.sub_add_cancel (Ac 0x14c110114a1101 Aa h))),show u+(w.length - u)=w.length by exact Nat.le_antisymm (Ap 0x14c214011114b2141101 Aa (Nat.sub_add_cancel (Ac 0x14c110114a1101 Aa h))) (Ap 0x14c411210114a4211101 Aa Bl),List.drop_length];rfl
theorem jD{f c:Nat->Nat}(hf:∀t,t<m->f t=f' t+c t):∀j,u+j<=m->Fs f u j=Fs f' u j+Fs c u j:=by
 intro Al
 induction Al with
 |zero=>
  intro _
  exact rfl
 |succ j zih=>
  intro h
  show Fs f u j+f (u+j)=(Fs f' u j+f' (u+j))+(Fs c u j+c (u+j))
  rw[zih (by exact Ap 0x14c214110114a2144121101 Aa h),hf (u+j) (by exact Ap 0x16c214110114a2144121101 Aa h)];exact Nat.le_antisymm (A7 0x14c4431114210144312141101 Aa) (A7 0x14c4431114210144312141101 Aa)
theorem QF{f g g' c:Nat->Nat}(hf:∀t,t<m->f t=f' t+c t)(hg:∀t,t<m->g t=g' t+c t):∀j,u+j<=m->Zs f g u j=Zs f' g' u j+Fs c u j:=by
 intro Al
 induction Al with
 |zero=>
  intro _
  exact rfl
 |succ j zih=>
  intro h
  show min (Fs f u (j+1)) (Zs f g u j+g (u+j))=min (Fs f' u (j+1)) (Zs f' g' u j+g' (u+j))+(Fs c u j+c (u+j))
  rw[jD hf (j+1) h,zih (by exact Ap 0x14c214110114a2144121101 Aa h),hg (u+j) (by exact Ap 0x16c214110114a2144121101 Aa h)]
  show min (_+(Fs c u j+c (u+j))) _=_
  exact Bm (λA6 Af=>Bm (λAS Am=>Nat.le_antisymm (AW 0x14c444131012114b444131112115b1101 Aa Af Am) (AW 0x14c214441310115b444131112114b1101 Aa Af Am)) (λAS Am=>Nat.le_antisymm (Dy 0x14c444121510115b431115114a4441314211101 Aa Am (Nat.min_le_right _ _)) (AW 0x14c214441310115b444131112114a1101 Aa Af (Nat.min_le_left _ _)))) (λA6 Af=>Bm (λAS Am=>Nat.le_antisymm (AW 0x14c443121410115b114114a4431211101 Aa Am (Nat.min_le_left _ _)) (Dy 0x14c314451410115b445121441113114a4211101 Aa Af (Nat.min_le_right _ _))) (λAS Am=>Nat.le_antisymm (Dy 0x14c445141013114b445121441113115b4211101 Aa Af Am) (Dy 0x14c314451410115b445121441113114b4211101 Aa Af Am)))
noncomputable def z3(x:Nat):Nat:=if x=3 then 0 else x
noncomputable def c3(κs:List Nat)(t:Nat):Nat:=if κs.getD t 0=3 then 1 else 0
theorem KY(κs:List Nat)(t:Nat):(κs.map z3).getD t 0=z3 (κs.getD t 0):=by
 rw[List.getD_eq_getElem?_getD,List.getD_eq_getElem?_getD,List.getElem?_map]
 cases κs[t]? <;>rfl
theorem i7(s:List Nat×List Nat)(k κ:Nat):Ej s k (z3 κ)=Ej s k κ:=by
 unfold z3
 by_cases h:κ=3
 ·subst h;rfl
 ·rw[if_neg h]
theorem Z9(κs:List Nat):Bh (κs.map z3)=Bh κs:=by
 unfold Bh
 congr 1
 funext s k
 rw[KY,i7]
theorem eE{x:Nat}(h:x<4):z3 x<3:=by
 unfold z3
 split
 ·decide
 ·exact Nat.lt_of_le_of_ne (Nat.le_of_lt_succ h) ‹_›
theorem N9:∀(k v:Nat) (w:List Nat),(Gi k v w).length=w.length
 |k,_,[]=>by cases k<;>rfl
 |0,_,_::_=>rfl
 |k+1,v,_::r=>congrArg (· +1) (N9 k v r)
theorem Pw:∀(k v:Nat) (w:List Nat) (x:Nat),k<w.length->(Gi k v w).getD x 0=if x=k then v else w.getD x 0
 |k,v,[],x,h=>absurd h (Nat.not_lt_zero _)
 |0,v,a::r,0,_=>rfl
 |0,v,a::r,x+1,_=>(if_neg (by exact λBk=>Ah 0x14b0241201 Aa Bk)).symm
 |k+1,v,a::r,0,_=>(if_neg (by exact λBk=>Ah 0x15b4120102 Aa Bk)).symm
 |k+1,v,a::r,x+1,h=>by
  have:=Pw k v r x (by simpa using h)
  show(Gi k v r).getD x 0=if x+1=k+1 then v else r.getD x 0
  rw[this]
  by_cases c:x=k
  ·rw[if_pos c,if_pos (by exact Nat.le_antisymm (Ac 0x14c412114120114b1101 Aa c) (Ac 0x14c412014121115b1101 Aa c))]
  ·rw[if_neg c,if_neg (by exact(Nat.lt_or_gt_of_ne c).elim (λA6=> λBk=>Ac 0x16a110115b4121141201 Aa A6 Bk) (λA6=> λBk=>Ac 0x16a011114b4121141201 Aa A6 Bk))]
theorem ZN:∀(L w:List Nat),(JN L w).length=w.length:=by
 intro Al
 induction Al with
 |nil=>
  intro _
  exact rfl
 |cons k L ih=>
  intro w
  exact(ih (Gi k 1 w)).trans (N9 k 1 w)
theorem bT:∀(L w:List Nat) (x:Nat),(∀k∈L,k<w.length)->(JN L w).getD x 0=if x∈L then 1 else w.getD x 0:=by
 intro Al
 induction Al with
 |nil=>
  intro w x _
  exact(if_neg (by simp)).symm
 |cons k L ih=>
  intro w x h
  show(JN L (Gi k 1 w)).getD x 0=_
  rw[ih (Gi k 1 w) x (λj hj=>by rw[N9];exact h j (List.mem_cons_of_mem _ hj)),Pw k 1 w x (h k List.mem_cons_self)]
  by_cases c1:x∈L
  ·rw[if_pos c1,if_pos (List.mem_cons_of_mem _ c1)]
  ·rw[if_neg c1]
   by_cases c2:x=k
   ·subst c2;rw[if_pos rfl,if_pos List.mem_cons_self]
   ·rw[if_neg c2,if_neg (by simp[c1,c2])]
noncomputable def wordsOf:List Nat->List Nat->List (List Nat)
 |[],w=>[w]
 |k::L,w=>w::wordsOf L (Gi k 2 w)
theorem lP{T:List (List Nat)}:∀{L w:List Nat},sameAll T L w=true->∀w'∈wordsOf L w,Hs w'=T:=by
 intro Al
 induction Al with
 |nil=>
  intro w h w' hw
  rw[List.mem_singleton.mp hw];exact Qz h
 |cons k L ih=>
  intro w h w' hw
  obtain⟨h1,h2⟩:=Bool.and_eq_true_iff.mp h
  obtain rfl|hw:=List.mem_cons.mp hw
  ·exact Qz h1
  ·exact ih h2 w' hw
noncomputable def RelW(κs:List Nat)(f g:Nat->Bool)(w:List Nat):Prop:=w.length=6/\∀t,t<6->(f t).toNat=w1 w t+c3 κs t/\(g t).toNat=w2 w t+c3 κs t
theorem RelW.step{w:List Nat}{f g:Nat->Bool}(h:RelW κs f g w)(hk:k<6)(hc:c3 κs k=0):RelW κs (DR f k) (BN g [k]) (Gi k 2 w):=by
 obtain⟨h1,h2⟩:=h
 refine⟨by rw[N9,h1],λt ht=>?_⟩
 obtain⟨e1,e2⟩:=h2 t ht
 unfold w1 w2 DR BN at*
 rw[Pw k 2 w t (by exact Ac 0x16c110115b621116a6201 Aa h1 hk)]
 by_cases c:t=k
 ·subst c
  rw[if_pos rfl,hc]
  simp
 ·rw[if_neg c,beq_false_of_ne c,decide_eq_false (by simpa using c),Bool.or_false,Bool.not_false,Bool.and_true]
  exact⟨e1,e2⟩
theorem kC:∀{L w:List Nat} {f g:Nat->Bool} {m:Nat},(∀k∈L,k<6/\c3 κs k=0)->RelW κs f g w->∀s∈(f,g,m)::Kq L f g m,s.2.2<=m+L.length/\∃w'∈wordsOf L w,RelW κs s.1 s.2.1 w':=by
 intro Al
 induction Al with
 |nil=>
  intro w f g m _ h s hs
  rw[List.mem_singleton.mp hs]
  exact⟨Nat.le_refl _,w,List.mem_singleton.mpr rfl,h⟩
 |cons k L ih=>
  intro w f g m hL h s hs
  obtain⟨hk,hc⟩:=hL k List.mem_cons_self
  obtain rfl|hs:=List.mem_cons.mp hs
  ·exact⟨Nat.le_add_right _ _,w,List.mem_cons_self,h⟩
  ·refine Kn (ih (λx hx=>hL x (List.mem_cons_of_mem _ hx)) (h.step hk hc) s hs) λh1 w' hw h2=>?_
   exact⟨by rw[List.length_cons];exact Ap 0x14c441221110114a4214121101 Aa h1,w',List.mem_cons_of_mem _ hw,h2⟩
theorem dP(h6:κs.length=6)(h4:∀x∈κs,x<4)(hL:∀k∈L,k<6/\c3 κs k=0):RelW κs (BN (P1 κs L) L) (P2 κs L) (JN L (κs.map z3)):=by
 refine⟨by rw[ZN,List.length_map,h6],λt ht=>?_⟩
 have hx:κs.getD t 0<4:=by
  rw[List.getD_eq_getElem?_getD,List.getElem?_eq_getElem (by exact Ac 0x16c011116a621115b6201 Aa ht h6)]
  exact h4 _ (List.getElem_mem _)
 unfold w1 w2 BN P1 P2
 rw[bT L _ t (λk hk=>by rw[List.length_map,h6];exact(hL k hk).1),KY]
 by_cases c:t∈L
 ·have:=(hL t c).2
  rw[if_pos c,decide_eq_true c,this]
  simp
 ·rw[if_neg c,decide_eq_false c]
  unfold c3 z3
  generalize κs.getD t 0=x at*
  refine IG (k:=x) ?_ ?_ ?_ ?_ hx<;>exact⟨rfl,rfl⟩
theorem Oa(h6:κs.length=6)(h4:∀x∈κs,x<4)(ht:t<6):(Dw κs).getD t 0=w1 (κs.map z3) t+c3 κs t/\(E3 κs).getD t 0=w2 (κs.map z3) t+c3 κs t:=by
 have hx:κs.getD t 0<4:=by
  rw[List.getD_eq_getElem?_getD,List.getElem?_eq_getElem (by exact Ac 0x16c011116a621115b6201 Aa ht h6)]
  exact h4 _ (List.getElem_mem _)
 have e1:(Dw κs).getD t 0=κs.getD t 0%2:=by
  unfold Dw
  rw[List.getD_eq_getElem?_getD,List.getD_eq_getElem?_getD,List.getElem?_map]
  cases κs[t]? <;>rfl
 have e2:(E3 κs).getD t 0=κs.getD t 0/2:=by
  unfold E3
  rw[List.getD_eq_getElem?_getD,List.getD_eq_getElem?_getD,List.getElem?_map]
  cases κs[t]? <;>rfl
 rw[e1,e2]
 unfold w1 w2 c3
 rw[KY]
 unfold z3
 generalize κs.getD t 0=x at*
 refine IG (k:=x) ?_ ?_ ?_ ?_ hx<;>exact⟨rfl,rfl⟩
theorem YD(h6:κs.length=6)(h4:∀x∈κs,x<4)(ho:∀k∈op,c3 κs k=0):∀L:List Nat,(∀k∈L,k<6)->(Hy κs op L).sum=(Hy (κs.map z3) op L).sum+(L.map (c3 κs)).sum:=by
 intro Al
 induction Al with
 |nil=>
  intro _
  exact rfl
 |cons k L zih=>
  intro h
  have ih:=zih λx hx=>h x (List.mem_cons_of_mem _ hx)
  have hk:=h k List.mem_cons_self
  have hx:κs.getD k 0<4:=by
   rw[List.getD_eq_getElem?_getD,List.getElem?_eq_getElem (by exact Ac 0x16c011116a621115b6201 Aa hk h6)]
   exact h4 _ (List.getElem_mem _)
  unfold Hy at*
  by_cases c:k∈op
  ·rw[List.filter_cons_of_neg (by simp[c]),List.map_cons,List.sum_cons,ho k c,ih];exact Nat.le_antisymm (Ac 0x14c4411020141101 Aa) (Ac 0x14c4110144110201 Aa)
  ·rw[List.filter_cons_of_pos (by simp[c]),List.map_cons,List.map_cons,List.map_cons,List.sum_cons,List.sum_cons,List.sum_cons,ih,KY]
   have:κs.getD k 0%2=z3 (κs.getD k 0)%2+c3 κs k:=by
    unfold c3 z3
    generalize κs.getD k 0=x at*
    refine IG (k:=x) ?_ ?_ ?_ ?_ hx<;>rfl
   exact Nat.le_antisymm (AW 0x14c444121431114441310114b4211101 Aa this) (AW 0x14c444131014441214311115b4211101 Aa this)
theorem oU(c:Nat->Nat)(u:Nat):∀n,(((List.range n).map (u+·)).map c).sum=Fs c u n:=by
 intro Al
 induction Al with
 |zero=>
  exact rfl
 |succ n zih=>
  rw[List.range_succ,List.map_append,List.map_append,List.sum_append,zih]
  simp[Fs]
theorem pairs_at(κs op:List Nat)(h:u<7):(pairsOf κs op).getD u 0=(Hy κs op (Ie u)).sum:=by
 unfold pairsOf
 rw[List.getD_eq_getElem?_getD,List.getElem?_map,List.getElem?_range h];rfl
theorem eQ(s:List Nat×List Nat)(k κ:Nat):(Ej s k κ).1.length+(Ej s k κ).2.length<=s.1.length+s.2.length+1:=by
 unfold Ej
 split
 ·simp;exact Ac 0x14c4124110144121101 Aa
 ·split
  ·split
   ·simp;exact Ac 0x14c4124110141141201 Aa
   ·simp;exact Ap 0x14c412411214012114a1101 Aa (Nat.sub_le _ _)
  ·exact Ac 0x14c4124110141101 Aa
theorem bU(κs:List Nat):(Bh κs).1.length+(Bh κs).2.length<=6:=by
 have st:∀{s:List Nat×List Nat} {k κ n:Nat},s.1.length+s.2.length<=n->(Ej s k κ).1.length+(Ej s k κ).2.length<=n+1:= λ{s k κ n} h=>Nat.le_trans (eQ s k κ) (by exact Ap 0x14c412214124110114a2141101 Aa h)
 exact st (st (st (st (st (st (Nat.le_refl 0))))))
theorem Oe(f:Nat->Bool)(h:t<6):decide ((t:Int)∈(AA f).map λ(k:Nat)=>(k:Int))=f t:=by
 rw[Bool.eq_iff_iff,decide_eq_true_iff]
 refine⟨λh'=>?_,λh'=>List.mem_map.mpr ⟨t,Oy.mpr ⟨h,h'⟩,rfl⟩⟩
 refine Ak (List.mem_map.mp h') λk hk e=>?_
 rw[<-Int.ofNat.inj e]
 exact(Oy.mp hk).2
theorem f0{OG:List Str}(h6:κs.length=6)(h4:∀x∈κs,x<4):T4 κs c0 c1 c2 OG c4 c5:=by
 have l3:(κs.map z3).length=6:=by rw[List.length_map,h6]
 have ck:=c8 l3 (λx hx=>by
  refine Ak (List.mem_map.mp hx) λy hy Ar=>?_;obtain rfl:=Ar
  exact eE (h4 y hy))
 unfold EZ at ck
 rw[Z9] at ck
 obtain⟨ck,ck2⟩:=Bool.and_eq_true_iff.mp ck
 obtain⟨ck3,ck4⟩:=Bool.and_eq_true_iff.mp ck2
 obtain⟨ck0,ck1⟩:=Bool.and_eq_true_iff.mp ck
 have nd:((Bh κs).1++(Bh κs).2).Nodup:=of_decide_eq_true ck0
 have hL:∀k∈(Bh κs).1++(Bh κs).2,k<6/\c3 κs k=0:=by
  intro k hk
  obtain⟨k1,k2⟩:=Bool.and_eq_true_iff.mp (List.all_eq_true.mp ck1 k hk)
  have k1:k<6:=Nat.le_of_ble_eq_true k1
  have k2:0<(κs.map z3).getD k 0:=Nat.le_of_ble_eq_true k2
  refine⟨k1,?_⟩
  rw[KY] at k2
  unfold c3
  refine if_neg λe=>?_
  rw[e] at k2
  exact absurd k2 (by decide)
 have ho:∀k∈(Bh κs).2,c3 κs k=0:= λk hk=>(hL k (List.mem_append_right _ hk)).2
 have ll:=bU κs
 have lL:((Bh κs).1++(Bh κs).2).length<=6:=by rw[List.length_append];exact ll
 have wd:=lP ck3
 have zs:∀s∈Jd κs ((Bh κs).1++(Bh κs).2),s.2.2<1000/\∀u j,u+j<=6->Zs (λt=>(s.1 t).toNat) (λt=>(s.2.1 t).toNat) u j=Zs (λt=>(Dw κs).getD t 0) (λt=>(E3 κs).getD t 0) u j:=by
  intro s hs
  refine UB (kC hL (dP h6 h4 hL) s hs) λm1 w hw r1 r2=>?_
  refine⟨by exact Ac 0x16c3e8331114a401011124a6201 Aa m1 lL,λu j hj=>?_⟩
  rw[QF (c:=c3 κs) (m:=6) (λt ht=>(r2 t ht).1) (λt ht=>(r2 t ht).2) j hj,QF (f:= λt=>(Dw κs).getD t 0) (c:=c3 κs) (m:=6) (λt ht=>(Oa h6 h4 ht).1) (λt ht=>(Oa h6 h4 ht).2) j hj,dT (r1.trans l3.symm) (wd w hw) (by exact Ap 0x14c014211114a624211115b6201 Aa hj r1)]
 have ys:∀s∈Jd κs ((Bh κs).1++(Bh κs).2),∀n,n<=6->Yr (λt=>(Bo [c0,c1,c2,OG,c4,c5]).getD t 0) (λt=>(s.1 t).toNat) (λt=>(s.2.1 t).toNat) n=Hz κs (Bo [c0,c1,c2,OG,c4,c5]) n:=by
  intro s hs n hn
  rw[VY]
  exact oZ (zs s hs).2 hn
 have ln:∀s∈Jd κs ((Bh κs).1++(Bh κs).2),_:= λs hs=>aO (κ:=κs) (O:=(AA s.1).map λ(k:Nat)=>(k:Int)) (T:=(AA s.2.1).map λ(k:Nat)=>(k:Int)) (c0:=c0) (c1:=c1) (c2:=c2) (c3:=OG) (c4:=c4) (c5:=c5) (f:= λt=>(s.1 t).toNat) (g:= λt=>(s.2.1 t).toNat) (λt ht=>by rw[Oe s.1 ht]) (λt ht=>by rw[Oe s.2.1 ht]) (ys s hs)
 refine⟨?_,nd,λk hk=>(hL k hk).1,lL,λs hs=>⟨(zs s hs).1,?_⟩,λs hs=>⟨(ln s hs).1,(ln s hs).2.1⟩⟩
 ·have e:=(ln _ List.mem_cons_self).2.2
  rw[e,ys _ List.mem_cons_self 6 (Nat.le_refl _),VY,Rs]
  show _=Hi ((List.range 7).map _)
  rw[kG]
  refine Ot λu hu=>?_
  congr 1
  rw[pairs_at κs _ (by exact Ah 0x16c720114a6201 Aa hu),YD h6 h4 ho (Ie u) (λk hk=>by
   refine Ak (List.mem_map.mp hk) λi hi Ar=>?_;obtain rfl:=Ar
   have:=List.mem_range.mp hi
   exact Ap 0x16c624211116a012114b6241101 Aa this (Nat.sub_add_cancel (Ah 0x14c620114a6201 Aa hu))),<-pairs_at (κs.map z3) _ (by exact Ah 0x16c720114a6201 Aa hu),Qu ck4,bO (by exact Ac 0x14c011114a621115b6201 Aa hu l3),l3]
  unfold Ie
  rw[oU,QF (f:= λt=>(Dw κs).getD t 0) (c:=c3 κs) (m:=6) (λt ht=>(Oa h6 h4 ht).1) (λt ht=>(Oa h6 h4 ht).2) (6 - u) (by exact Ac 0x14c624011114b6241101 Aa (Nat.sub_add_cancel (Ah 0x14c620114a6201 Aa hu)))]
 ·rw[<-(ln s hs).1]
  exact i8 λk hk=>⟨Oe s.1 hk,Oe s.2.1 hk⟩
theorem o8(W n:Nat)(L:List Int)(hL:L.length<=100000):∃ρ',BL (E (W+110) (n+41)) tp "law" [.list (L.map .int)] []=some (.bool true,ρ'):=by
 refine kS (eN (V:=W+110) (n:=n+26) hL) λx0 x1 x2 x3 x4 x5 hx Yp hh=>?_
 refine Ak (Kw (hx x0 (by simp))) λd0 Bc k0=>?_;obtain rfl:=Bc
 refine Ak (Kw (hx x1 (by simp))) λd1 Bc k1=>?_;obtain rfl:=Bc
 refine Ak (Kw (hx x2 (by simp))) λd2 Bc k2=>?_;obtain rfl:=Bc
 refine Ak (Kw (hx x3 (by simp))) λd3 Bc k3=>?_;obtain rfl:=Bc
 refine Ak (Kw (hx x4 (by simp))) λd4 Bc k4=>?_;obtain rfl:=Bc
 refine Ak (Kw (hx x5 (by simp))) λd5 Bc k5=>?_;obtain rfl:=Bc
 have ok:∀d∈[d0,d1,d2,d3,d4,d5],d.ok:=by
  intro d hd
  simp only[List.mem_cons,List.not_mem_nil,or_false] at hd
  obtain rfl|rfl|rfl|rfl|rfl|rfl:=hd<;>assumption
 refine dR (n:=n) rfl ok hh (f0 rfl λx hx=>?_)
 refine Ak (List.mem_map.mp hx) λw hw Ar=>?_;obtain rfl:=Ar
 refine Ak (List.mem_map.mp hw) λd hd Ar=>?_;obtain rfl:=Ar
 exact(ok d hd).2.1
end
set_option backward.match.sparseCases true
noncomputable def C8(d:BG)(name qual:Str)(code:Addr)(df kd md:Value):Obj:={cls:=.type "function",data:=.func {name,qualname:=qual,params:=d.ps,body:=.stmts d.body,scope:=d.sc,globals:=3,closure:=[],defaults:=df,kwdefaults:=kd,doc:=.none,pyModule:=md,annotations:=none,code:=.ref code,closureTuple:=.none,builtins:=0}}
noncomputable def Ip(P:Params):Frag:=[
 (3,{cls:=.type "dict",data:=.dict ([⟨PyData.keyHash P "__name__",.str "__name__" 165,.str "law_sc0059_01" 337⟩,⟨PyData.keyHash P "__doc__",.str "__doc__" 166,.none⟩,⟨PyData.keyHash P "__package__",.str "__package__" 167,.none⟩,⟨PyData.keyHash P "__loader__",.str "__loader__" 168,.builtin "__main__.__loader__#opaque"⟩,⟨PyData.keyHash P "__spec__",.str "__spec__" 169,.none⟩,⟨PyData.keyHash P "__annotations__",.str "__annotations__" 170,.ref 6⟩,⟨PyData.keyHash P "__builtins__",.str "__builtins__" 171,.ref 4⟩,⟨PyData.keyHash P "__file__",.str "__file__" 173,.str "/claim/cut.py" 172⟩,⟨PyData.keyHash P "__cached__",.str "__cached__" 174,.none⟩,⟨PyData.keyHash P "_iter_escaped_chars",.str "_iter_escaped_chars" 198,.ref 21⟩,⟨PyData.keyHash P "_strip_quoted_realnames",.str "_strip_quoted_realnames" 210,.ref 28⟩,⟨PyData.keyHash P "_check_parenthesis",.str "_check_parenthesis" 220,.ref 35⟩,⟨PyData.keyHash P "insort_right",.str "insort_right" 235,.ref 44⟩,⟨PyData.keyHash P "bisect_right",.str "bisect_right" 249,.ref 53⟩,⟨PyData.keyHash P "insort_left",.str "insort_left" 262,.ref 62⟩,⟨PyData.keyHash P "bisect_left",.str "bisect_left" 276,.ref 71⟩,⟨PyData.keyHash P "_netrclex",.str "_netrclex" 336,.ref 109⟩,⟨PyData.keyHash P "_law_lexer",.str "_law_lexer" 347,.ref 120⟩,⟨PyData.keyHash P "_law_words",.str "_law_words" 356,.ref 127⟩,⟨PyData.keyHash P "_law_hours",.str "_law_hours" 369,.ref 134⟩,⟨PyData.keyHash P "_law_text",.str "_law_text" 375,.ref 139⟩,⟨PyData.keyHash P "_law_lone",.str "_law_lone" 386,.ref 146⟩,⟨PyData.keyHash P "_law_lack",.str "_law_lack" 392,.ref 151⟩,⟨PyData.keyHash P "_law_queue",.str "_law_queue" 403,.ref 158⟩,⟨PyData.keyHash P "_law_shares",.str "_law_shares" 409,.ref 163⟩,⟨PyData.keyHash P "_law_by_lines",.str "_law_by_lines" 415,.ref 168⟩,⟨PyData.keyHash P "_law_by_hours",.str "_law_by_hours" 429,.ref 175⟩,⟨PyData.keyHash P "_law_due",.str "_law_due" 435,.ref 180⟩,⟨PyData.keyHash P "law",.str "law" 441,.ref 185⟩]:List DictEntry).toArray 29}),
 (20,{cls:=.type "code",data:=.fields ([.str "_iter_escaped_chars" 189,.str "_iter_escaped_chars" 190,.str "/claim/cut.py" 191,.int 2 0,.int 1 0,.int 0 0,.int 0 0,.int 35 0,.ref 15,.bool true,.int 181 0,.ref 16,.none,.ref 17,.ref 18,.ref 19,.int 196 0,.int 2 0,.str "/claim/cut.py" 197]:List Value).toArray}),
 (21,C8 (defAt tp 0) "_iter_escaped_chars" "_iter_escaped_chars" 20 .none .none (.str "cpy313.email.utils" 187)),
 (27,{cls:=.type "code",data:=.fields ([.str "_strip_quoted_realnames" 199,.str "_strip_quoted_realnames" 200,.str "/claim/cut.py" 201,.int 15 0,.int 1 0,.int 0 0,.int 0 0,.int 3 0,.ref 22,.bool true,.int 181 0,.ref 23,.none,.ref 24,.ref 25,.ref 26,.int 208 0,.int 15 0,.str "/claim/cut.py" 209]:List Value).toArray}),
 (28,C8 (defAt tp 1) "_strip_quoted_realnames" "_strip_quoted_realnames" 27 .none .none (.str "cpy313.email.utils" 187)),
 (34,{cls:=.type "code",data:=.fields ([.str "_check_parenthesis" 211,.str "_check_parenthesis" 212,.str "/claim/cut.py" 213,.int 33 0,.int 1 0,.int 0 0,.int 0 0,.int 3 0,.ref 29,.bool true,.int 181 0,.ref 30,.none,.ref 31,.ref 32,.ref 33,.int 218 0,.int 33 0,.str "/claim/cut.py" 219]:List Value).toArray}),
 (35,C8 (defAt tp 2) "_check_parenthesis" "_check_parenthesis" 34 .none .none (.str "cpy313.email.utils" 187)),
 (36,{cls:=.type "tuple",data:=.seq ([.int 0 223,.none]:List Value).toArray 0}),
 (37,{cls:=.type "dict",data:=.dict ([⟨PyData.keyHash P "key",.str "key" 224,.none⟩]:List DictEntry).toArray 1}),
 (43,{cls:=.type "code",data:=.fields ([.str "insort_right" 225,.str "insort_right" 226,.str "/claim/cut.py" 227,.int 45 0,.int 4 0,.int 0 0,.int 1 0,.int 3 0,.ref 38,.bool true,.int 181 0,.ref 39,.none,.ref 40,.ref 41,.ref 42,.int 233 0,.int 45 0,.str "/claim/cut.py" 234]:List Value).toArray}),
 (44,C8 (defAt tp 3) "insort_right" "insort_right" 43 (.ref 36) (.ref 37) (.str "cpy313.bisect" 221)),
 (45,{cls:=.type "tuple",data:=.seq ([.int 0 236,.none]:List Value).toArray 0}),
 (46,{cls:=.type "dict",data:=.dict ([⟨PyData.keyHash P "key",.str "key" 237,.none⟩]:List DictEntry).toArray 1}),
 (52,{cls:=.type "code",data:=.fields ([.str "bisect_right" 238,.str "bisect_right" 239,.str "/claim/cut.py" 240,.int 51 0,.int 4 0,.int 0 0,.int 1 0,.int 3 0,.ref 47,.bool true,.int 181 0,.ref 48,.none,.ref 49,.ref 50,.ref 51,.int 247 0,.int 51 0,.str "/claim/cut.py" 248]:List Value).toArray}),
 (53,C8 (defAt tp 4) "bisect_right" "bisect_right" 52 (.ref 45) (.ref 46) (.str "cpy313.bisect" 221)),
 (54,{cls:=.type "tuple",data:=.seq ([.int 0 250,.none]:List Value).toArray 0}),
 (55,{cls:=.type "dict",data:=.dict ([⟨PyData.keyHash P "key",.str "key" 251,.none⟩]:List DictEntry).toArray 1}),
 (61,{cls:=.type "code",data:=.fields ([.str "insort_left" 252,.str "insort_left" 253,.str "/claim/cut.py" 254,.int 71 0,.int 4 0,.int 0 0,.int 1 0,.int 3 0,.ref 56,.bool true,.int 181 0,.ref 57,.none,.ref 58,.ref 59,.ref 60,.int 260 0,.int 71 0,.str "/claim/cut.py" 261]:List Value).toArray}),
 (62,C8 (defAt tp 5) "insort_left" "insort_left" 61 (.ref 54) (.ref 55) (.str "cpy313.bisect" 221)),
 (63,{cls:=.type "tuple",data:=.seq ([.int 0 263,.none]:List Value).toArray 0}),
 (64,{cls:=.type "dict",data:=.dict ([⟨PyData.keyHash P "key",.str "key" 264,.none⟩]:List DictEntry).toArray 1}),
 (70,{cls:=.type "code",data:=.fields ([.str "bisect_left" 265,.str "bisect_left" 266,.str "/claim/cut.py" 267,.int 77 0,.int 4 0,.int 0 0,.int 1 0,.int 3 0,.ref 65,.bool true,.int 181 0,.ref 66,.none,.ref 67,.ref 68,.ref 69,.int 274 0,.int 77 0,.str "/claim/cut.py" 275]:List Value).toArray}),
 (71,C8 (defAt tp 6) "bisect_left" "bisect_left" 70 (.ref 63) (.ref 64) (.str "cpy313.bisect" 221)),
 (84,{cls:=.type "code",data:=.fields ([.str "__init__" 291,.str "_netrclex.__init__" 292,.str "/claim/cut.py" 293,.int 100 0,.int 2 0,.int 0 0,.int 0 0,.int 3 0,.ref 79,.bool true,.int 181 0,.ref 80,.none,.ref 81,.ref 82,.ref 83,.int 296 0,.int 100 0,.str "/claim/cut.py" 297]:List Value).toArray}),
 (85,C8 (defAt (CW tp) 0) "__init__" "_netrclex.__init__" 84 .none .none (.str "cpy313.netrc" 277)),
 (91,{cls:=.type "code",data:=.fields ([.str "_read_char" 299,.str "_netrclex._read_char" 300,.str "/claim/cut.py" 301,.int 106 0,.int 1 0,.int 0 0,.int 0 0,.int 3 0,.ref 86,.bool true,.int 181 0,.ref 87,.none,.ref 88,.ref 89,.ref 90,.int 304 0,.int 106 0,.str "/claim/cut.py" 305]:List Value).toArray}),
 (92,C8 (defAt (CW tp) 1) "_read_char" "_netrclex._read_char" 91 .none .none (.str "cpy313.netrc" 277)),
 (98,{cls:=.type "code",data:=.fields ([.str "get_token" 307,.str "_netrclex.get_token" 308,.str "/claim/cut.py" 309,.int 112 0,.int 1 0,.int 0 0,.int 0 0,.int 3 0,.ref 93,.bool true,.int 181 0,.ref 94,.none,.ref 95,.ref 96,.ref 97,.int 314 0,.int 112 0,.str "/claim/cut.py" 315]:List Value).toArray}),
 (99,C8 (defAt (CW tp) 2) "get_token" "_netrclex.get_token" 98 .none .none (.str "cpy313.netrc" 277)),
 (105,{cls:=.type "code",data:=.fields ([.str "push_token" 317,.str "_netrclex.push_token" 318,.str "/claim/cut.py" 319,.int 139 0,.int 2 0,.int 0 0,.int 0 0,.int 3 0,.ref 100,.bool true,.int 181 0,.ref 101,.none,.ref 102,.ref 103,.ref 104,.int 322 0,.int 139 0,.str "/claim/cut.py" 323]:List Value).toArray}),
 (106,C8 (defAt (CW tp) 3) "push_token" "_netrclex.push_token" 105 .none .none (.str "cpy313.netrc" 277)),
 (108,{cls:=.type "dict",data:=.dict ([⟨PyData.keyHash P "__module__",.str "__module__" 286,.str "cpy313.netrc" 277⟩,⟨PyData.keyHash P "__firstlineno__",.str "__firstlineno__" 290,.int 98 289⟩,⟨PyData.keyHash P "__init__",.str "__init__" 298,.ref 85⟩,⟨PyData.keyHash P "_read_char",.str "_read_char" 306,.ref 92⟩,⟨PyData.keyHash P "get_token",.str "get_token" 316,.ref 99⟩,⟨PyData.keyHash P "push_token",.str "push_token" 324,.ref 106⟩,⟨PyData.keyHash P "__static_attributes__",.str "__static_attributes__" 329,.ref 107⟩,⟨PyData.keyHash P "__dict__",.str "__dict__" 331,.ref 110⟩,⟨PyData.keyHash P "__weakref__",.str "__weakref__" 333,.ref 111⟩,⟨PyData.keyHash P "__doc__",.str "__doc__" 334,.none⟩]:List DictEntry).toArray 4}),
 (109,{cls:=.type "type",data:=.cls {name:="_netrclex",bases:=[.type "object"],mro:=[.ref 109,.type "object"],ns:=108,qualname:="_netrclex",hasDict:=true},slots:=([none,none,some (.str "_netrclex" 279),some (.str "_netrclex" 287),some (.builtin "object.__new__"),some (.bool true)]:List (Option Value)).toArray}),
 (119,{cls:=.type "code",data:=.fields ([.str "_law_lexer" 339,.str "_law_lexer" 340,.str "/claim/cut.py" 341,.int 142 0,.int 1 0,.int 0 0,.int 0 0,.int 3 0,.ref 114,.bool true,.int 181 0,.ref 115,.none,.ref 116,.ref 117,.ref 118,.int 345 0,.int 142 0,.str "/claim/cut.py" 346]:List Value).toArray}),
 (120,C8 (defAt tp 7) "_law_lexer" "_law_lexer" 119 .none .none (.str "law_sc0059_01" 337)),
 (126,{cls:=.type "code",data:=.fields ([.str "_law_words" 348,.str "_law_words" 349,.str "/claim/cut.py" 350,.int 147 0,.int 1 0,.int 0 0,.int 0 0,.int 3 0,.ref 121,.bool true,.int 181 0,.ref 122,.none,.ref 123,.ref 124,.ref 125,.int 354 0,.int 147 0,.str "/claim/cut.py" 355]:List Value).toArray}),
 (127,C8 (defAt tp 8) "_law_words" "_law_words" 126 .none .none (.str "law_sc0059_01" 337)),
 (133,{cls:=.type "code",data:=.fields ([.str "_law_hours" 357,.str "_law_hours" 358,.str "/claim/cut.py" 359,.int 154 0,.int 1 0,.int 0 0,.int 0 0,.int 3 0,.ref 128,.bool true,.int 181 0,.ref 129,.none,.ref 130,.ref 131,.ref 132,.int 367 0,.int 154 0,.str "/claim/cut.py" 368]:List Value).toArray}),
 (134,C8 (defAt tp 9) "_law_hours" "_law_hours" 133 .none .none (.str "law_sc0059_01" 337)),
 (138,{cls:=.type "code",data:=.fields ([.str "_law_text" 370,.str "_law_text" 371,.str "/claim/cut.py" 372,.int 165 0,.int 1 0,.int 0 0,.int 0 0,.int 3 0,.ref 135,.bool true,.int 181 0,.ref 136,.none,.none,.none,.ref 137,.int 373 0,.int 165 0,.str "/claim/cut.py" 374]:List Value).toArray}),
 (139,C8 (defAt tp 10) "_law_text" "_law_text" 138 .none .none (.str "law_sc0059_01" 337)),
 (145,{cls:=.type "code",data:=.fields ([.str "_law_lone" 376,.str "_law_lone" 377,.str "/claim/cut.py" 378,.int 175 0,.int 2 0,.int 0 0,.int 0 0,.int 3 0,.ref 140,.bool true,.int 181 0,.ref 141,.none,.ref 142,.ref 143,.ref 144,.int 384 0,.int 175 0,.str "/claim/cut.py" 385]:List Value).toArray}),
 (146,C8 (defAt tp 11) "_law_lone" "_law_lone" 145 .none .none (.str "law_sc0059_01" 337)),
 (150,{cls:=.type "code",data:=.fields ([.str "_law_lack" 387,.str "_law_lack" 388,.str "/claim/cut.py" 389,.int 187 0,.int 2 0,.int 0 0,.int 0 0,.int 3 0,.ref 147,.bool true,.int 181 0,.ref 148,.none,.none,.none,.ref 149,.int 390 0,.int 187 0,.str "/claim/cut.py" 391]:List Value).toArray}),
 (151,C8 (defAt tp 12) "_law_lack" "_law_lack" 150 .none .none (.str "law_sc0059_01" 337)),
 (157,{cls:=.type "code",data:=.fields ([.str "_law_queue" 393,.str "_law_queue" 394,.str "/claim/cut.py" 395,.int 190 0,.int 1 0,.int 0 0,.int 0 0,.int 3 0,.ref 152,.bool true,.int 181 0,.ref 153,.none,.ref 154,.ref 155,.ref 156,.int 401 0,.int 190 0,.str "/claim/cut.py" 402]:List Value).toArray}),
 (158,C8 (defAt tp 13) "_law_queue" "_law_queue" 157 .none .none (.str "law_sc0059_01" 337)),
 (162,{cls:=.type "code",data:=.fields ([.str "_law_shares" 404,.str "_law_shares" 405,.str "/claim/cut.py" 406,.int 199 0,.int 2 0,.int 0 0,.int 0 0,.int 3 0,.ref 159,.bool true,.int 181 0,.ref 160,.none,.none,.none,.ref 161,.int 407 0,.int 199 0,.str "/claim/cut.py" 408]:List Value).toArray}),
 (163,C8 (defAt tp 14) "_law_shares" "_law_shares" 162 .none .none (.str "law_sc0059_01" 337)),
 (167,{cls:=.type "code",data:=.fields ([.str "_law_by_lines" 410,.str "_law_by_lines" 411,.str "/claim/cut.py" 412,.int 209 0,.int 3 0,.int 0 0,.int 0 0,.int 3 0,.ref 164,.bool true,.int 181 0,.ref 165,.none,.none,.none,.ref 166,.int 413 0,.int 209 0,.str "/claim/cut.py" 414]:List Value).toArray}),
 (168,C8 (defAt tp 15) "_law_by_lines" "_law_by_lines" 167 .none .none (.str "law_sc0059_01" 337)),
 (174,{cls:=.type "code",data:=.fields ([.str "_law_by_hours" 416,.str "_law_by_hours" 417,.str "/claim/cut.py" 418,.int 226 0,.int 3 0,.int 0 0,.int 0 0,.int 3 0,.ref 169,.bool true,.int 181 0,.ref 170,.none,.ref 171,.ref 172,.ref 173,.int 427 0,.int 226 0,.str "/claim/cut.py" 428]:List Value).toArray}),
 (175,C8 (defAt tp 16) "_law_by_hours" "_law_by_hours" 174 .none .none (.str "law_sc0059_01" 337)),
 (179,{cls:=.type "code",data:=.fields ([.str "_law_due" 430,.str "_law_due" 431,.str "/claim/cut.py" 432,.int 239 0,.int 3 0,.int 0 0,.int 0 0,.int 3 0,.ref 176,.bool true,.int 181 0,.ref 177,.none,.none,.none,.ref 178,.int 433 0,.int 239 0,.str "/claim/cut.py" 434]:List Value).toArray}),
 (180,C8 (defAt tp 17) "_law_due" "_law_due" 179 .none .none (.str "law_sc0059_01" 337)),
 (184,{cls:=.type "code",data:=.fields ([.str "law" 436,.str "law" 437,.str "/claim/cut.py" 438,.int 249 0,.int 1 0,.int 0 0,.int 0 0,.int 3 0,.ref 181,.bool true,.int 181 0,.ref 182,.none,.none,.none,.ref 183,.int 439 0,.int 249 0,.str "/claim/cut.py" 440]:List Value).toArray}),
 (185,C8 (defAt tp 18) "law" "law" 184 .none .none (.str "law_sc0059_01" 337))]
noncomputable def kT:Frag:=[
 (6,{cls:=.type "dict",data:=.dict ([]:List DictEntry).toArray 0}),
 (115,{cls:=.none,data:=.fields ([]:List Value).toArray}),
 (148,{cls:=.none,data:=.fields ([]:List Value).toArray}),
 (153,{cls:=.none,data:=.fields ([]:List Value).toArray})]
noncomputable def KF(P:Params):Frag:=Ip P++kT
noncomputable def Lq:List Addr:=[3,20,21,27,28,34,35,36,37,43,44,45,46,52,53,54,55,61,62,63,64,70,71,84,85,91,92,98,99,105,106,108,109,119,120,126,127,133,134,138,139,145,146,150,151,157,158,162,163,167,168,174,175,179,180,184,185,6,115,148,153]
section
variable {c:Cx} {d:BG}
noncomputable def T3(d:BG)(name qual:Str)(code:Addr)(df kd md:Value):FuncData:={name,qualname:=qual,params:=d.ps,body:=.stmts d.body,scope:=d.sc,globals:=3,closure:=[],defaults:=df,kwdefaults:=kd,doc:=.none,pyModule:=md,annotations:=none,code:=.ref code,closureTuple:=.none,builtins:=0}
noncomputable def Ln(c:Cx)(d:BG)(fd:FuncData):Prop:=∀(P:AV->Value->Prop) (s:Shared) v0 DL pos Ba kw Ci b,(∀a o,c.base.get? a=some o->¬c.isTab a->s.heap.get? a=some o)->D9 d.ps (v0::pos) kw=some b->A2 P pos Ba->BR (λ_=>P) kw Ci->P .none .none->(∀t,P (.int 0) (.int 0 t))->
 ∃p Hb Jw,b=(p,v0)::Hb/\d.ps.args.head?.map (·.arg)=some p/\BindsTo s fd ⟨DL::Ba,Ci⟩ ((p,DL)::Jw)/\BR (λ_=>P) Hb Jw
theorem MM{pos:List AV}{kw:List (Str×AV)}{b:List (Str×AV)}(hs:GW d.ps=true)(h:D9 d.ps pos kw=some b):kw=[]/\MA d.ps.args pos=some b:=by
 unfold D9 at h
 rw[if_pos hs] at h
 obtain⟨_,h1,h2⟩:=CP h
 exact⟨List.isEmpty_iff.mp (AI h1),h2⟩
theorem Gn{fd:FuncData}{p1:Arg}(hs:GW d.ps=true)(ha:d.ps.args=[p1])(hb:∀v,bindArgs fd ⟨[v],[]⟩=pure [(p1.arg,v)]):Ln c d fd:=by
 intro P s v0 DL pos Ba kw Ci b _ h a2 br _ _
 obtain⟨rfl,z⟩:=MM hs h
 cases br
 rw[ha] at z ⊢
 cases a2 with
 |nil=>exact⟨_,_,[],(Option.some.inj z).symm,rfl,.of_eq (hb DL),.nil⟩
 |cons _ _=>exact Az z
theorem Md{fd:FuncData}{p1 p2:Arg}(hs:GW d.ps=true)(ha:d.ps.args=[p1,p2])(hb:∀v w,bindArgs fd ⟨[v,w],[]⟩=pure [(p1.arg,v),(p2.arg,w)]):Ln c d fd:=by
 intro P s v0 DL pos Ba kw Ci b _ h a2 br _ _
 obtain⟨rfl,z⟩:=MM hs h
 cases br
 rw[ha] at z ⊢
 cases a2 with
 |nil=>exact Az z
 |cons x1 a2=>
  cases a2 with
  |nil=>exact⟨_,_,[(p2.arg,_)],(Option.some.inj z).symm,rfl,.of_eq (hb DL _),.cons x1 .nil⟩
  |cons _ _=>exact Az z
theorem Rl{fd:FuncData}{p1 p2 p3:Arg}(hs:GW d.ps=true)(ha:d.ps.args=[p1,p2,p3])(hb:∀v w x,bindArgs fd ⟨[v,w,x],[]⟩=pure [(p1.arg,v),(p2.arg,w),(p3.arg,x)]):Ln c d fd:=by
 intro P s v0 DL pos Ba kw Ci b _ h a2 br _ _
 obtain⟨rfl,z⟩:=MM hs h
 cases br
 rw[ha] at z ⊢
 cases a2 with
 |nil=>exact Az z
 |cons x1 a2=>
  cases a2 with
  |nil=>exact Az z
  |cons x2 a2=>
   cases a2 with
   |nil=>exact⟨_,_,[(p2.arg,_),(p3.arg,_)],(Option.some.inj z).symm,rfl,.of_eq (hb DL _ _),.cons x1 (.cons x2 .nil)⟩
   |cons _ _=>exact Az z
noncomputable def K9(P:Params)(a b:Addr)(t1 t2:PySem.Tok):Frag:=[(a,{cls:=.type "tuple",data:=.seq ([.int 0 t1,.none]:List Value).toArray 0}),(b,{cls:=.type "dict",data:=.dict ([⟨PyData.keyHash P "key",.str "key" t2,.none⟩]:List DictEntry).toArray 1})]
structure lR (K:Frag) (fd:FuncData) (t1:PySem.Tok):Prop where
 e2:∀S v w,peek K S (bindArgs fd ⟨[v,w],[]⟩)=some ([("a",v),("x",w),("lo",.int 0 t1),("hi",.none),("key",.none)]:List (Str×Value))
 e3:∀S v w l,peek K S (bindArgs fd ⟨[v,w,l],[]⟩)=some ([("a",v),("x",w),("lo",l),("hi",.none),("key",.none)]:List (Str×Value))
 e4:∀S v w l h,peek K S (bindArgs fd ⟨[v,w,l,h],[]⟩)=some ([("a",v),("x",w),("lo",l),("hi",h),("key",.none)]:List (Str×Value))
 k2:∀S v w k,peek K S (bindArgs fd ⟨[v,w],[("key",k)]⟩)=some ([("a",v),("x",w),("lo",.int 0 t1),("hi",.none),("key",k)]:List (Str×Value))
 k3:∀S v w l k,peek K S (bindArgs fd ⟨[v,w,l],[("key",k)]⟩)=some ([("a",v),("x",w),("lo",l),("hi",.none),("key",k)]:List (Str×Value))
 k4:∀S v w l h k,peek K S (bindArgs fd ⟨[v,w,l,h],[("key",k)]⟩)=some ([("a",v),("x",w),("lo",l),("hi",h),("key",k)]:List (Str×Value))
theorem NP{fd:FuncData}{K:Frag}{t1:PySem.Tok}(hs:GW d.ps=false)(hh:d.ps.args.head?.map (·.arg)=some "a")(hK:∀a o,K.lookup a=some o->c.base.get? a=some o/\¬c.isTab a)(B:lR K fd t1):Ln c d fd:=by
 intro P s v0 DL pos Ba kw Ci b hk h a2 br p0 pi
 have X:K.In s.heap:= λa o e=>hk a o (hK a o e).1 (hK a o e).2
 have to:∀{args binds},(∀S,peek K S (bindArgs fd args)=some binds)->BindsTo s fd args binds:= λ{args binds} e M _ _ _ q=>(Looks.of_peek (M:=M) X (e _)).here q
 unfold D9 at h
 rw[hs,if_neg Bool.false_ne_true] at h
 obtain⟨key,Dg,h⟩:=CP h
 refine⟨"a",?_⟩
 unfold U4 at Dg
 cases br with
 |nil=>
  obtain rfl:=Option.some.inj Dg
  cases a2 with
  |nil=>exact Az h
  |cons x1 a2=>
   cases a2 with
   |nil=>exact⟨_,_,(Option.some.inj h).symm,hh,to λS=>B.e2 S DL _,.cons x1 (.cons (pi t1) (.cons p0 (.cons p0 .nil)))⟩
   |cons x2 a2=>
    cases a2 with
    |nil=>exact⟨_,_,(Option.some.inj h).symm,hh,to λS=>B.e3 S DL _ _,.cons x1 (.cons x2 (.cons p0 (.cons p0 .nil)))⟩
    |cons x3 a2=>
     cases a2 with
     |nil=>exact⟨_,_,(Option.some.inj h).symm,hh,to λS=>B.e4 S DL _ _ _,.cons x1 (.cons x2 (.cons x3 (.cons p0 .nil)))⟩
     |cons _ _=>exact Az h
 |@cons kn k k' r r' y br=>
  dsimp only at Dg
  by_cases e:kn="key"
  ·subst e
   rw[if_pos rfl] at Dg
   cases br with
   |cons _ _=>exact Az Dg
   |nil=>
    obtain rfl:=Option.some.inj Dg
    cases a2 with
    |nil=>exact Az h
    |cons x1 a2=>
     cases a2 with
     |nil=>exact⟨_,_,(Option.some.inj h).symm,hh,to λS=>B.k2 S DL _ _,.cons x1 (.cons (pi t1) (.cons p0 (.cons y .nil)))⟩
     |cons x2 a2=>
      cases a2 with
      |nil=>exact⟨_,_,(Option.some.inj h).symm,hh,to λS=>B.k3 S DL _ _ _,.cons x1 (.cons x2 (.cons p0 (.cons y .nil)))⟩
      |cons x3 a2=>
       cases a2 with
       |nil=>exact⟨_,_,(Option.some.inj h).symm,hh,to λS=>B.k4 S DL _ _ _ _,.cons x1 (.cons x2 (.cons x3 (.cons y .nil)))⟩
       |cons _ _=>exact Az h
  ·exact Az ((if_neg e).symm.trans Dg)
theorem NK(hs:GW d.ps=false)(hn:((["a","x","lo","hi","key"]:List Str).all λx=>d.sc.names.lookup x==some .local||d.sc.names.lookup x==some .cell)=true):∀pos kw b,D9 d.ps pos kw=some b->∀q∈b,d.sc.names.lookup q.1=some .local∨d.sc.names.lookup q.1=some .cell:=by
 intro pos kw b h q hq
 unfold D9 at h
 rw[hs,if_neg Bool.false_ne_true] at h
 obtain⟨key,_,h⟩:=CP h
 have hm:q.1∈(["a","x","lo","hi","key"]:List Str):=by
  unfold SO at h
  match pos,h with
  |[_,_],h=>cases h;exact List.mem_map_of_mem (f:=Prod.fst) hq
  |[_,_,_],h=>cases h;exact List.mem_map_of_mem (f:=Prod.fst) hq
  |[_,_,_,_],h=>cases h;exact List.mem_map_of_mem (f:=Prod.fst) hq
 have:=List.all_eq_true.mp hn q.1 hm
 exact(Bool.or_eq_true_iff.mp this).imp beq_iff_eq.mp beq_iff_eq.mp
theorem Dz(hs:GW d.ps=true)(hn:(d.ps.args.all λa=>d.sc.names.lookup a.arg==some .local||d.sc.names.lookup a.arg==some .cell)=true):∀pos kw b,D9 d.ps pos kw=some b->∀q∈b,d.sc.names.lookup q.1=some .local∨d.sc.names.lookup q.1=some .cell:=by
 intro pos kw b h q hq
 obtain⟨_,z⟩:=MM hs h
 have key:∀(as:List Arg) (pos:List AV) (b:List (Str×AV)),MA as pos=some b->∀q∈b,∃a∈as,a.arg=q.1:=by
  intro as
  induction as with
  |nil=>
   intro pos b h q hq
   cases pos with
   |nil=>cases h;cases hq
   |cons _ _=>cases h
  |cons a r ih=>
   intro pos b h q hq
   cases pos with
   |nil=>cases h
   |cons v vs=>
    obtain⟨b',h',rfl⟩:=Fg h
    obtain rfl|hq:=List.mem_cons.mp hq
    ·exact⟨a,List.mem_cons_self,rfl⟩
    ·obtain⟨x,hx,e⟩:=ih vs b' h' q hq
     exact⟨x,List.mem_cons_of_mem _ hx,e⟩
 obtain⟨a,ha,e⟩:=key _ _ _ z q hq
 have:=List.all_eq_true.mp hn a ha
 rw[e] at this
 exact(Bool.or_eq_true_iff.mp this).imp beq_iff_eq.mp beq_iff_eq.mp
theorem CN{name qual:Str}{code a:Addr}{df kd md:Value}{vs:Array Value}{t:PySem.Tok}(ka:c.base.get? a=some (C8 d name qual code df kd md))(na:¬c.isTab a)(kc:c.base.get? code=some {cls:=.type "code",data:=.fields vs})(nc:¬c.isTab code)(h1:vs[1]? =some (.str qual t))
 (co:d.sc.isCoroutine=false) (kind:d.sc.kind=.function) (host:∀f,DF d.sc=some f->Value.ref code=.ref (c.hc f)/\qual++".<locals>."=c.hq f) (names:∀pos kw b,D9 d.ps pos kw=some b->∀q∈b,d.sc.names.lookup q.1=some .local∨d.sc.names.lookup q.1=some .cell) (hb:Ln c d (T3 d name qual code df kd md)):
 Ei c d a (C8 d name qual code df kd md) (T3 d name qual code df kd md):=
 ⟨ka,na,rfl,rfl,rfl,rfl,rfl,rfl,⟨code,_,vs,t,rfl,kc,nc,rfl,h1⟩,co,kind,host,names,hb⟩
end
noncomputable def aC(f:Str):Addr:=if f="_law_lexer" then 119 else if f="_law_lack" then 150 else 157
noncomputable def MV(f:Str):Str:=f++".<locals>."
noncomputable def LM:List (Addr×Addr×Str):=[(119,115,MV "_law_lexer"++"<lambda>"),(150,148,MV "_law_lack"++"<lambda>"),(157,153,MV "_law_queue"++"<lambda>")]
noncomputable def By(w:World)(h:Heap)(mg mb:Str->Option Value):Cx:={base:=hideAll h [6],mg,mb,P:=w.params,C:=109,rd:=some (.ref 92),tabs:=LM,hc:=aC,hq:=MV}
section
variable {w:World} {h:Heap} {mg mb:Str->Option Value}
theorem fA{α:Type}{P:α->Prop}{a:α}{l:List α}(h:P a)(k:∀x∈l,P x):∀x∈a::l,P x:=List.forall_mem_cons.mpr ⟨h,k⟩
theorem fN{α:Type}{P:α->Prop}:∀x∈([]:List α),P x:= λ_ h=>nomatch h
theorem U5{a:Addr}(t:(By w h mg mb).isTab a):a=115∨a=148∨a=153:=by
 obtain⟨t,ht,rfl⟩:=t
 exact(fA (P:= λt:Addr×Addr×Str=>t.2.1=115∨t.2.1=148∨t.2.1=153) (.inl rfl) <| fA (.inr (.inl rfl)) <| fA (.inr (.inr rfl)) fN) t ht
theorem Zk(P:Params):(Ip P).map (·.1)=[3,20,21,27,28,34,35,36,37,43,44,45,46,52,53,54,55,61,62,63,64,70,71,84,85,91,92,98,99,105,106,108,109,119,120,126,127,133,134,138,139,145,146,150,151,157,158,162,163,167,168,174,175,179,180,184,185]:=rfl
theorem oN{K:Frag}{a:Addr}{o:Obj}(e:K.lookup a=some o):a∈K.map (·.1):=by
 induction K with
 |nil=>cases e
 |cons p r ih=>
  obtain⟨b,x⟩:=p
  rw[List.lookup_cons] at e
  by_cases q:a=b
  ·subst q;exact List.mem_cons_self
  ·rw[show(a==b)=false from beq_false_of_ne q] at e
   exact List.mem_cons_of_mem _ (ih e)
theorem Us{K L:Frag}{a:Addr}{o:Obj}(e:K.lookup a=some o):(K++L).lookup a=some o:=by
 induction K with
 |nil=>cases e
 |cons p r ih=>
  obtain⟨b,x⟩:=p
  rw[List.cons_append,List.lookup_cons] at*
  by_cases q:a=b
  ·subst q;rw[beq_self_eq_true] at e ⊢;exact e
  ·rw[show(a==b)=false from beq_false_of_ne q] at e ⊢
   exact ih e
theorem QG(X:(KF w.params).In h)(a:Addr)(o:Obj)(e:(Ip w.params).lookup a=some o):(By w h mg mb).base.get? a=some o/\¬(By w h mg mb).isTab a:=by
 have k:=oN e
 rw[Zk] at k
 have hn:∀b∈[3,20,21,27,28,34,35,36,37,43,44,45,46,52,53,54,55,61,62,63,64,70,71,84,85,91,92,98,99,105,106,108,109,119,120,126,127,133,134,138,139,145,146,150,151,157,158,162,163,167,168,174,175,179,180,184,185],b≠6/\b≠115/\b≠148/\b≠153:=by decide
 obtain⟨n1,n2,n3,n4⟩:=hn a k
 refine⟨hideAll_get _ (X _ _ (Us e)) (by simp[n1]),λt=>?_⟩
 rcases U5 t with rfl|rfl|rfl
 ·exact n2 rfl
 ·exact n3 rfl
 ·exact n4 rfl
theorem Do{d:BG}{v:Value}{q:Str}{c:Cx}(e:DF d.sc=none):∀f,DF d.sc=some f->v=.ref (c.hc f)/\q++".<locals>."=c.hq f:= λf k=>by rw[e] at k;cases k
theorem Qm{d:BG}{v:Value}{q g:Str}{c:Cx}(e:DF d.sc=some g)(h1:v=.ref (c.hc g))(h2:q++".<locals>."=c.hq g):∀f,DF d.sc=some f->v=.ref (c.hc f)/\q++".<locals>."=c.hq f:= λf k=>by rw[e] at k;cases k;exact⟨h1,h2⟩
noncomputable def C9(c:Cx)(d:BG)(a:Addr):Prop:=∃o fd,Ei c d a o fd
noncomputable abbrev cK(w:World)(h:Heap)(mg mb:Str->Option Value):Prop:=∀a o,(Ip w.params).lookup a=some o->(By w h mg mb).base.get? a=some o/\¬(By w h mg mb).isTab a
theorem MF{A B:Addr}{t1 t2:PySem.Tok}(K:cK w h mg mb)(hA:(Ip w.params).lookup A=some {cls:=.type "tuple",data:=.seq ([.int 0 t1,.none]:List Value).toArray 0})(hB:(Ip w.params).lookup B=some {cls:=.type "dict",data:=.dict ([⟨PyData.keyHash w.params "key",.str "key" t2,.none⟩]:List DictEntry).toArray 1}):
 ∀a o,(K9 w.params A B t1 t2).lookup a=some o->(By w h mg mb).base.get? a=some o/\¬(By w h mg mb).isTab a:=by
 intro a o e
 unfold K9 at e
 rw[List.lookup_cons] at e
 by_cases q:a=A
 ·subst q
  rw[beq_self_eq_true] at e
  cases e
  exact K _ _ hA
 ·rw[show(a==A)=false from beq_false_of_ne q,List.lookup_cons] at e
  by_cases q:a=B
  ·subst q
   rw[beq_self_eq_true] at e
   cases e
   exact K _ _ hB
  ·rw[show(a==B)=false from beq_false_of_ne q] at e
   cases e
theorem Y9(K:cK w h mg mb):C9 (By w h mg mb) (defAt tp 0) 21:=⟨_,_,CN (K 21 _ rfl).1 (K 21 _ rfl).2 (K 20 _ rfl).1 (K 20 _ rfl).2 rfl rfl rfl (Do rfl) (Dz rfl rfl) (Gn rfl rfl λ_=>rfl)⟩
theorem jI(K:cK w h mg mb):C9 (By w h mg mb) (defAt tp 1) 28:=⟨_,_,CN (K 28 _ rfl).1 (K 28 _ rfl).2 (K 27 _ rfl).1 (K 27 _ rfl).2 rfl rfl rfl (Do rfl) (Dz rfl rfl) (Gn rfl rfl λ_=>rfl)⟩
theorem eU(K:cK w h mg mb):C9 (By w h mg mb) (defAt tp 2) 35:=⟨_,_,CN (K 35 _ rfl).1 (K 35 _ rfl).2 (K 34 _ rfl).1 (K 34 _ rfl).2 rfl rfl rfl (Do rfl) (Dz rfl rfl) (Gn rfl rfl λ_=>rfl)⟩
theorem ZS(K:cK w h mg mb):C9 (By w h mg mb) (defAt tp 3) 44:=⟨_,_,CN (K 44 _ rfl).1 (K 44 _ rfl).2 (K 43 _ rfl).1 (K 43 _ rfl).2 rfl rfl rfl (Do rfl) (NK rfl rfl) (NP (K:=K9 w.params 36 37 223 224) rfl rfl (MF K rfl rfl) ⟨λ_ _ _=>rfl,λ_ _ _ _=>rfl,λ_ _ _ _ _=>rfl,λ_ _ _ _=>rfl,λ_ _ _ _ _=>rfl,λ_ _ _ _ _ _=>rfl⟩)⟩
theorem kQ(K:cK w h mg mb):C9 (By w h mg mb) (defAt tp 4) 53:=⟨_,_,CN (K 53 _ rfl).1 (K 53 _ rfl).2 (K 52 _ rfl).1 (K 52 _ rfl).2 rfl rfl rfl (Do rfl) (NK rfl rfl) (NP (K:=K9 w.params 45 46 236 237) rfl rfl (MF K rfl rfl) ⟨λ_ _ _=>rfl,λ_ _ _ _=>rfl,λ_ _ _ _ _=>rfl,λ_ _ _ _=>rfl,λ_ _ _ _ _=>rfl,λ_ _ _ _ _ _=>rfl⟩)⟩
theorem jY(K:cK w h mg mb):C9 (By w h mg mb) (defAt tp 5) 62:=⟨_,_,CN (K 62 _ rfl).1 (K 62 _ rfl).2 (K 61 _ rfl).1 (K 61 _ rfl).2 rfl rfl rfl (Do rfl) (NK rfl rfl) (NP (K:=K9 w.params 54 55 250 251) rfl rfl (MF K rfl rfl) ⟨λ_ _ _=>rfl,λ_ _ _ _=>rfl,λ_ _ _ _ _=>rfl,λ_ _ _ _=>rfl,λ_ _ _ _ _=>rfl,λ_ _ _ _ _ _=>rfl⟩)⟩
theorem fE(K:cK w h mg mb):C9 (By w h mg mb) (defAt tp 6) 71:=⟨_,_,CN (K 71 _ rfl).1 (K 71 _ rfl).2 (K 70 _ rfl).1 (K 70 _ rfl).2 rfl rfl rfl (Do rfl) (NK rfl rfl) (NP (K:=K9 w.params 63 64 263 264) rfl rfl (MF K rfl rfl) ⟨λ_ _ _=>rfl,λ_ _ _ _=>rfl,λ_ _ _ _ _=>rfl,λ_ _ _ _=>rfl,λ_ _ _ _ _=>rfl,λ_ _ _ _ _ _=>rfl⟩)⟩
theorem iC(K:cK w h mg mb):C9 (By w h mg mb) (defAt tp 7) 120:=⟨_,_,CN (K 120 _ rfl).1 (K 120 _ rfl).2 (K 119 _ rfl).1 (K 119 _ rfl).2 rfl rfl rfl (Qm rfl rfl rfl) (Dz rfl rfl) (Gn rfl rfl λ_=>rfl)⟩
theorem cN(K:cK w h mg mb):C9 (By w h mg mb) (defAt tp 8) 127:=⟨_,_,CN (K 127 _ rfl).1 (K 127 _ rfl).2 (K 126 _ rfl).1 (K 126 _ rfl).2 rfl rfl rfl (Do rfl) (Dz rfl rfl) (Gn rfl rfl λ_=>rfl)⟩
theorem ZQ(K:cK w h mg mb):C9 (By w h mg mb) (defAt tp 9) 134:=⟨_,_,CN (K 134 _ rfl).1 (K 134 _ rfl).2 (K 133 _ rfl).1 (K 133 _ rfl).2 rfl rfl rfl (Do rfl) (Dz rfl rfl) (Gn rfl rfl λ_=>rfl)⟩
theorem jZ(K:cK w h mg mb):C9 (By w h mg mb) (defAt tp 10) 139:=⟨_,_,CN (K 139 _ rfl).1 (K 139 _ rfl).2 (K 138 _ rfl).1 (K 138 _ rfl).2 rfl rfl rfl (Do rfl) (Dz rfl rfl) (Gn rfl rfl λ_=>rfl)⟩
theorem bM(K:cK w h mg mb):C9 (By w h mg mb) (defAt tp 11) 146:=⟨_,_,CN (K 146 _ rfl).1 (K 146 _ rfl).2 (K 145 _ rfl).1 (K 145 _ rfl).2 rfl rfl rfl (Do rfl) (Dz rfl rfl) (Md rfl rfl λ_ _=>rfl)⟩
theorem pI(K:cK w h mg mb):C9 (By w h mg mb) (defAt tp 12) 151:=⟨_,_,CN (K 151 _ rfl).1 (K 151 _ rfl).2 (K 150 _ rfl).1 (K 150 _ rfl).2 rfl rfl rfl (Qm rfl rfl rfl) (Dz rfl rfl) (Md rfl rfl λ_ _=>rfl)⟩
theorem Y8(K:cK w h mg mb):C9 (By w h mg mb) (defAt tp 13) 158:=⟨_,_,CN (K 158 _ rfl).1 (K 158 _ rfl).2 (K 157 _ rfl).1 (K 157 _ rfl).2 rfl rfl rfl (Qm rfl rfl rfl) (Dz rfl rfl) (Gn rfl rfl λ_=>rfl)⟩
theorem f9(K:cK w h mg mb):C9 (By w h mg mb) (defAt tp 14) 163:=⟨_,_,CN (K 163 _ rfl).1 (K 163 _ rfl).2 (K 162 _ rfl).1 (K 162 _ rfl).2 rfl rfl rfl (Do rfl) (Dz rfl rfl) (Md rfl rfl λ_ _=>rfl)⟩
theorem dZ(K:cK w h mg mb):C9 (By w h mg mb) (defAt tp 15) 168:=⟨_,_,CN (K 168 _ rfl).1 (K 168 _ rfl).2 (K 167 _ rfl).1 (K 167 _ rfl).2 rfl rfl rfl (Do rfl) (Dz rfl rfl) (Rl rfl rfl λ_ _ _=>rfl)⟩
theorem cC(K:cK w h mg mb):C9 (By w h mg mb) (defAt tp 16) 175:=⟨_,_,CN (K 175 _ rfl).1 (K 175 _ rfl).2 (K 174 _ rfl).1 (K 174 _ rfl).2 rfl rfl rfl (Do rfl) (Dz rfl rfl) (Rl rfl rfl λ_ _ _=>rfl)⟩
theorem g8(K:cK w h mg mb):C9 (By w h mg mb) (defAt tp 17) 180:=⟨_,_,CN (K 180 _ rfl).1 (K 180 _ rfl).2 (K 179 _ rfl).1 (K 179 _ rfl).2 rfl rfl rfl (Do rfl) (Dz rfl rfl) (Rl rfl rfl λ_ _ _=>rfl)⟩
theorem V8(K:cK w h mg mb):C9 (By w h mg mb) (defAt tp 18) 185:=⟨_,_,CN (K 185 _ rfl).1 (K 185 _ rfl).2 (K 184 _ rfl).1 (K 184 _ rfl).2 rfl rfl rfl (Do rfl) (Dz rfl rfl) (Gn rfl rfl λ_=>rfl)⟩
theorem f7(K:cK w h mg mb):C9 (By w h mg mb) (defAt (CW tp) 0) 85:=⟨_,_,CN (K 85 _ rfl).1 (K 85 _ rfl).2 (K 84 _ rfl).1 (K 84 _ rfl).2 rfl rfl rfl (Do rfl) (Dz rfl rfl) (Md rfl rfl λ_ _=>rfl)⟩
theorem f6(K:cK w h mg mb):C9 (By w h mg mb) (defAt (CW tp) 1) 92:=⟨_,_,CN (K 92 _ rfl).1 (K 92 _ rfl).2 (K 91 _ rfl).1 (K 91 _ rfl).2 rfl rfl rfl (Do rfl) (Dz rfl rfl) (Gn rfl rfl λ_=>rfl)⟩
theorem kJ(K:cK w h mg mb):C9 (By w h mg mb) (defAt (CW tp) 2) 99:=⟨_,_,CN (K 99 _ rfl).1 (K 99 _ rfl).2 (K 98 _ rfl).1 (K 98 _ rfl).2 rfl rfl rfl (Do rfl) (Dz rfl rfl) (Gn rfl rfl λ_=>rfl)⟩
theorem jX(K:cK w h mg mb):C9 (By w h mg mb) (defAt (CW tp) 3) 106:=⟨_,_,CN (K 106 _ rfl).1 (K 106 _ rfl).2 (K 105 _ rfl).1 (K 105 _ rfl).2 rfl rfl rfl (Do rfl) (Dz rfl rfl) (Md rfl rfl λ_ _=>rfl)⟩
noncomputable def JV:List (Str×Nat×Addr):=[("_iter_escaped_chars",0,21),("_strip_quoted_realnames",1,28),("_check_parenthesis",2,35),("insort_right",3,44),("bisect_right",4,53),("insort_left",5,62),("bisect_left",6,71),("_law_lexer",7,120),("_law_words",8,127),("_law_hours",9,134),("_law_text",10,139),("_law_lone",11,146),("_law_lack",12,151),("_law_queue",13,158),("_law_shares",14,163),("_law_by_lines",15,168),("_law_by_hours",16,175),("_law_due",17,180),("law",18,185)]
noncomputable def VX:List (Str×Nat×Addr):=[("__init__",0,85),("_read_char",1,92),("get_token",2,99),("push_token",3,106)]
noncomputable def KW(top:List Stmt)(f:Str):List (Str×Nat×Addr)->Option BG
 |[]=>none
 |p::r=>if p.1=f then some (defAt top p.2.1) else KW top f r
set_option tactic.hygienic true in
theorem MH{top:List Stmt}{f:Str}{d:BG}:∀{l:List (Str×Nat×Addr)},KW top f l=some d->∃p∈l,p.1=f/\d=defAt top p.2.1
 |[],h=>nomatch h
 |p::r,h=>by
  unfold KW at h
  split at h
  ·rename_i e
   cases h
   exact⟨p,List.mem_cons_self,e,rfl⟩
  ·obtain⟨q,h1,h2⟩:=MH h
   exact⟨q,List.mem_cons_of_mem _ h1,h2⟩
theorem Uj(f:Str):B4 tp f=KW tp f JV:=rfl
theorem oJ(f:Str):B4 (CW tp) f=KW (CW tp) f VX:=rfl
theorem T9(K:cK w h mg mb):∀p∈JV,C9 (By w h mg mb) (defAt tp p.2.1) p.2.2:=fA (Y9 K) <| fA (jI K) <| fA (eU K) <| fA (ZS K) <| fA (kQ K) <| fA (jY K) <| fA (fE K) <| fA (iC K) <| fA (cN K) <| fA (ZQ K) <| fA (jZ K) <| fA (bM K) <| fA (pI K) <| fA (Y8 K) <| fA (f9 K) <| fA (dZ K) <| fA (cC K) <| fA (g8 K) <| fA (V8 K) <| fN
theorem bN(K:cK w h mg mb):∀p∈VX,C9 (By w h mg mb) (defAt (CW tp) p.2.1) p.2.2:=fA (f7 K) <| fA (f6 K) <| fA (kJ K) <| fA (jX K) <| fN
noncomputable def Lm(P:Params):Array DictEntry:=match(Ip P).lookup 3 with
 |some ⟨_,_,.dict es _,_⟩=>es
 |_=> #[]
theorem Q2(G:h.Ns mainGlobals mg)(X:(KF w.params).In h)(x:Str):mg x=nsFind (Lm w.params) x:=by
 obtain⟨o,es,ep,h1,h2,_,h4⟩:=G
 have h3:=X 3 _ (Us rfl)
 rw[show(3:Addr)=mainGlobals from rfl,h1] at h3
 cases h3
 cases h2
 exact(h4 x).symm
theorem Ug(P:Params):∀p∈JV,nsFind (Lm P) p.1=some (.ref p.2.2):=by
 have h:(JV.all λp=>decide (nsFind (Lm P) p.1=some (.ref p.2.2)))=true:=by kernel_rfl
 exact λp hp=>of_decide_eq_true (List.all_eq_true.mp h p hp)
theorem WJ(P:Params):∀x∈(["len","sum","min","iter","range","enumerate","list"]:List Str),nsFind (Lm P) x=none:=by
 have h:((["len","sum","min","iter","range","enumerate","list"]:List Str).all λx=>decide (nsFind (Lm P) x=none))=true:=by kernel_rfl
 exact λx hx=>of_decide_eq_true (List.all_eq_true.mp h x hx)
theorem UC:∀p∈([("len",.builtin "len"),("sum",.builtin "sum"),("min",.builtin "min"),("iter",.builtin "iter"),("range",.type "range"),("enumerate",.type "enumerate"),("list",.type "list")]:List (Str×Value)),bootBuiltins p.1=some p.2:=by
 decide+kernel
end
section
variable {w:World} {h:Heap} {mg mb:Str->Option Value} {p:Program} {loose:List Str} {X7:ExcName->Option Value}
theorem QK{a:Addr}{o:Obj}(e:h.get? a=some o)(n:a≠6):(By w h mg mb).base.get? a=some o:=hideAll_get _ e (by simp[n])
theorem Qe{a:Addr}{m:Str->Option Value}(e:h.Ns a m)(n:a≠6):(By w h mg mb).base.Ns a m:=e.at' λ_ k=>QK k n
theorem L0{a:Addr}(h1:a≠115)(h2:a≠148)(h3:a≠153):¬(By w h mg mb).isTab a:= λt=>by
 rcases U5 t with q|q|q
 ·exact h1 q
 ·exact h2 q
 ·exact h3 q
theorem Pk{c t:Addr}{vs:List Value}(e:(By w h mg mb).base.get? c=some {cls:=.type "code",data:=.fields vs.toArray}){Pa:Str}{tf tg tt:PySem.Tok}{OS text:Int}{OH:Bool}
 (h1:vs.toArray[11]? =some (.ref t)) (h2:vs.toArray.getD 11 .none=.ref t) (h3:vs.toArray.getD 18 .none=.str Pa tf) (h4:vs.toArray.getD 7 .none=.int OS tg) (h5:vs.toArray.getD 9 .none=.bool OH) (h6:vs.toArray.getD 10 .none=.int text tt) (h7:c≠t):CodeHd (By w h mg mb).base c t:=
 ⟨_,vs.toArray,Pa,tf,OS,tg,OH,text,tt,e,rfl,rfl,h1,h2,h3,h4,h5,h6,h7⟩
theorem aH{sc:Scope}{f:Str}(e:DF sc=some f):f="_law_lexer"∨f="_law_lack"∨f="_law_queue":=by
 unfold DF at e
 split at e
 ·cases e;exact .inl rfl
 ·split at e
  ·cases e;exact .inr (.inl rfl)
  ·split at e
   ·cases e;exact .inr (.inr rfl)
   ·cases e
theorem YI(T:Top p loose X7 mg mb h)(X:(KF w.params).In h):Bx (By w h mg mb) tp:=by
 have K:cK w h mg mb:=QG X
 have G:=Q2 T.g X
 have X3:∀q∈JV,mg q.1=some (.ref q.2.2):= λq hq=>(G q.1).trans (Ug w.params q hq)
 have KH:∀{x:Str} {v:Value},(x,v)∈([("len",.builtin "len"),("sum",.builtin "sum"),("min",.builtin "min"),("iter",.builtin "iter"),("range",.type "range"),("enumerate",.type "enumerate"),("list",.type "list")]:List (Str×Value))->x≠"__name__"->mb x=some v:= λ{x v} hm hn=>(T.builtins x hn).trans (UC _ hm)
 have fr:∀{x:Str},x∈(["len","sum","min","iter","range","enumerate","list"]:List Str)->mg x=none:= λ{x} hx=>(G x).trans (WJ w.params x hx)
 refine{lim:=?_,tabs:=?_,nst:=L0 (by decide) (by decide) (by decide),glob:=Qe T.g (by decide),ngl:=L0 (by decide) (by decide) (by decide),blt:=Qe T.b (by decide),nbl:=L0 (by decide) (by decide) (by decide),bm:=?_,fn:=?_,gen:=?_,host:=?_,len:=⟨fr (.head _),KH (.head _) (by decide+kernel)⟩,sum:=⟨fr (.tail _ (.head _)),KH (.tail _ (.head _)) (by decide+kernel)⟩,min:=⟨fr (.tail _ (.tail _ (.head _))),KH (.tail _ (.tail _ (.head _))) (by decide+kernel)⟩,iter:=⟨fr (.tail _ (.tail _ (.tail _ (.head _)))),KH (.tail _ (.tail _ (.tail _ (.head _)))) (by decide+kernel)⟩,range:=⟨fr (.tail _ (.tail _ (.tail _ (.tail _ (.head _))))),KH (.tail _ (.tail _ (.tail _ (.tail _ (.head _))))) (by decide+kernel)⟩,enumerate:=⟨fr (.tail _ (.tail _ (.tail _ (.tail _ (.tail _ (.head _)))))),KH (.tail _ (.tail _ (.tail _ (.tail _ (.tail _ (.head _)))))) (by decide+kernel)⟩}
 ·obtain⟨mc,h1,h2⟩:=T.nolimit
  exact⟨mc,Qe h1 (by decide),h2⟩
 ·show ∀t∈LM,∀t'∈LM,t.2.1=t'.2.1->t=t'
  decide+kernel
 ·obtain⟨bm,ob,h1,h2,h3,h4,h5,h6⟩:=T.bmain
  have e4:mg "__builtins__"=some (.ref 4):=(G _).trans (by kernel_rfl)
  rw[h1] at e4
  cases e4
  exact⟨4,ob,h1,h2,by decide,L0 (by decide) (by decide) (by decide),QK h3 (by decide),h4,h5,h6⟩
 ·intro f d hf _
  obtain⟨q,hq,rfl,rfl⟩:=MH ((Uj f).symm.trans hf)
  obtain⟨o,fd,F⟩:=T9 K q hq
  exact⟨_,o,fd,X3 q hq,F⟩
 ·intro d hf
  obtain⟨q,hq,e,rfl⟩:=MH ((Uj _).symm.trans hf)
  obtain⟨o,fd,F⟩:=T9 K q hq
  exact⟨_,o,fd,e▸X3 q hq,F⟩
 ·intro sc f e
  rcases aH e with rfl|rfl|rfl
  ·exact⟨115,Pk (K 119 _ rfl).1 rfl rfl rfl rfl rfl rfl (show(119:Nat)≠115 by decide),.head _⟩
  ·exact⟨148,Pk (K 150 _ rfl).1 rfl rfl rfl rfl rfl rfl (show(150:Nat)≠148 by decide),.tail _ (.head _)⟩
  ·exact⟨153,Pk (K 157 _ rfl).1 rfl rfl rfl rfl rfl rfl (show(157:Nat)≠153 by decide),.tail _ (.tail _ (.head _))⟩
theorem nW(T:Top p loose X7 mg mb h)(X:(KF w.params).In h):ClsK w (By w h mg mb) tp (Ip w.params):=by
 have K:cK w h mg mb:=QG X
 have G:=Q2 T.g X
 refine{kin:=K,hP:=rfl,dict:=by kernel_rfl,ga:=by kernel_rfl,gt:=by kernel_rfl,sa:=by kernel_rfl,over:=by kernel_rfl,plain:=?_,meth:=?_,makes:=by kernel_rfl,keep:=by kernel_rfl,glob:=(G _).trans (by kernel_rfl),list:=⟨(G _).trans (WJ w.params _ (by simp)),(T.builtins _ (by decide+kernel)).trans (UC ("list",.type "list") (by simp))⟩,htop:=rfl,rd:=⟨92,rfl,by kernel_rfl,by kernel_rfl⟩}
 ·exact fA (by kernel_rfl) <| fA (by kernel_rfl) <| fA (by kernel_rfl) <| fA (by kernel_rfl) <| fA (by kernel_rfl) fN
 ·intro m d hf
  obtain⟨q,hq,rfl,rfl⟩:=MH ((oJ m).symm.trans hf)
  obtain⟨o,fd,F⟩:=bN K q hq
  refine⟨q.2.2,o,fd,?_,?_,F⟩
  ·clear F hf;revert q
   exact fA (by kernel_rfl) <| fA (by kernel_rfl) <| fA (by kernel_rfl) <| fA (by kernel_rfl) fN
  ·clear F hf;revert q
   exact fA (by kernel_rfl) <| fA (by kernel_rfl) <| fA (by kernel_rfl) <| fA (by kernel_rfl) fN
end
theorem eF:∀P,Lq=(KF P).map (·.1):= λ_=>by kernel_rfl
noncomputable def Eh:Program:={PySem.Challenge.pw_sc0059_01 with main:={PySem.Challenge.pw_sc0059_01.main with body:=[at' tp 23]}}
noncomputable def JP:List Str:=["_iter_escaped_chars","_strip_quoted_realnames","_check_parenthesis","insort_right","bisect_right","insort_left","bisect_left","_netrclex","_law_lexer","_law_words","_law_hours","_law_text","_law_lone","_law_lack","_law_queue","_law_shares","_law_by_lines","_law_by_hours","_law_due"]
abbrev rW:RowW:=PySem.Challenge.rw_sc0059_01.row.toRowW
theorem mL{Xt:Shared->Bool}{N:Nat}(left:LeftO rW.prog Eh JP Xt (λs=>((kHook KF Lq eF).obs s,decide (0<s.toks))) (λw=>((kHook KF Lq eF).val w,true)) N)
 (hX:∀s,Xt s=true->XL Eh [] (s.heap.nsMap mainGlobals) s.heap) (q0:∀s,Xt s=true->RecFacts rW.records s.heap) {d:DefRec} {XJ:List (Str×Expr)} (Pc:defOf Eh "law"=some (d,XJ)) (hp:rW.prog.theDef "law"=some (d.params,d.body,d.scope)) (hk:kwWritten? d.params.kwonlyargs d.params.kw_defaults=some XJ)
 (Mm:chainsOk Eh=true) (o1:opensWell rW.prog=true) (fr:frees rW=true) (sG:rW.claim.within=[]) (hb:rW.prog.bare) (hw:rW.promised)
 (walk:∀(w:World) (s Ad:Shared) (mg mb:Str->Option Value),Ground Eh JP rW.records (XL Eh []) w s mg mb Ad.heap->(KF w.params).In Ad.heap->0<s.toks->∀args vs as,rW.claim.pre args=true->WData.layableAll args=true->Laid rW.records w s Ad args vs as->
  ∃f,mg "law"=some f/\wpAny (model rW.prog w) callerA (call f vs) (λv s'=>GoodWG rW.claim (classAt s.heap) (ExcName.means s.heap) args Ad (.ok (.ret v)) s') (λe s'=>GoodWG rW.claim (classAt s.heap) (ExcName.means s.heap) args Ad (.error e) s') Ad):
 rW.claim.HoldsOpenBy (callStub "law") (if PySem.Challenge.rw_sc0059_01.row.pinned then["law"] else[]) PySem.Challenge.rw_sc0059_01.row.keeps PySem.Challenge.rw_sc0059_01.row.writes:=by
 obtain⟨hsame,hu,ha,hap,hm⟩:=frees_parts fr
 have hi:=ident_freeW hu ha hap
 refine⟨⟨hb,o1,rfl⟩,hw.witness,λw=>⟨(left.behind hX Mm w).1,λs' ET=>?_⟩⟩
 obtain⟨Ao,hf,hg0,s,hT,hz,OP,hg,G0,y⟩:=(left.behind (XP:= λmg h=>XL Eh [] mg h/\RecFacts rW.records h) (λs hs=>⟨hX s hs,q0 s hs⟩) Mm w).2 s' ET
 obtain⟨gT,gB,gD,gTE,gTD,gW,gX,gcls,ghas,gap,gon,gK⟩:=G0
 have G1:Ground Eh JP [] (XL Eh []) w s (s.heap.nsMap mainGlobals) (s.heap.nsMap builtinsNs) s.heap:=⟨gT,gB,gD,gTE,gTD,gW,gX.1,gcls,ghas,gap,gon,gK⟩
 obtain⟨y1,y2⟩:=Prod.mk.inj y
 refine⟨Ao,hf,hg0,s,hT,λn hn=>?_,gX.2.1,gX.2.2.1,?_⟩
 ·obtain rfl:n="law":=by split at hn<;>simp_all
  exact pinned_of_view hg G1 Pc hp hk
 ·have OP:=Array.eq_empty_of_size_eq_zero (beq_iff_eq.mp OP)
  have G:Ground Eh JP rW.records (XL Eh []) w s _ _ s.heap:=gX.2.ground G1
  refine ClaimW.callFrom_of_specG (c:=rW.claim) hz OP λargs KJ Yc ord Xe=>?_
  obtain⟨⟨vs,Ad⟩,hl⟩:=Option.isSome_iff_exists.mp (layAllW_isSome (P:=w.params) (ord:=ord) G.has args rW.args s (pre_splitW KJ).1)
  have kp:=layAllW_keeps _ _ _ hl
  have al:=layAllW_rest _ _ _ hl
  obtain⟨as,KL,Er,hold⟩:=reads_layAllW Xe _ _ _ hl Yc Ad.heap (λ_ _ e=>e)
  have L:Laid rW.records w s Ad args vs as:=⟨⟨ord,Xe,hl⟩,KL,Er,hold,kp,al.1.trans OP,al.2.2.1⟩
  have Av:=G.keeps XL.keeps kp
  obtain⟨f,e,h⟩:=walk w s Ad _ _ Av ((kHook KF Lq eF).keeps _ _ _ ((kHook KF Lq eF).of w s y1) kp) (of_decide_eq_true y2) args vs as KJ Yc L
  have CY:∀{r s'},GoodWG rW.claim (classAt s.heap) (ExcName.means s.heap) args Ad r s'->rW.claim.Ends s args vs Ad r s'/\s'.os=s.os/\AllBare s'.gens/\(PySem.Challenge.rw_sc0059_01.row.writes=true->namesKept rW.claim.prog PySem.Challenge.rw_sc0059_01.row.keeps s.heap s'.heap/\∀x∈rW.claim.records,∀a,classAt s.heap x.1=some a->recordClass s'.heap a x.1 (x.2.map (·.1))=true):= λ{r s'} g=>
   have z:=g.laid (c:=rW.claim) hsame sG hi L
   ⟨z.1,z.2.1,z.2.2,λq=>Bool.noConfusion q⟩
  refine⟨vs,Ad,hl,wpAny_bind (wpAny_nsGet Av.T.g ?_)⟩
  rw[e]
  exact wpAny_bind (wpAny_mono h (λv s' g=>wpAny_pure ⟨_,rfl,CY g⟩) λ_ _ g=>CY g)
set_option maxHeartbeats 4000000 in
theorem ZU(walk:∀(w:World) (s Ad:Shared) (mg mb:Str->Option Value),Ground Eh JP rW.records (XL Eh []) w s mg mb Ad.heap->(KF w.params).In Ad.heap->0<s.toks->∀args vs as,rW.claim.pre args=true->WData.layableAll args=true->Laid rW.records w s Ad args vs as->
 ∃f,mg "law"=some f/\wpAny (model rW.prog w) callerA (call f vs) (λv s'=>GoodWG rW.claim (classAt s.heap) (ExcName.means s.heap) args Ad (.ok (.ret v)) s') (λe s'=>GoodWG rW.claim (classAt s.heap) (ExcName.means s.heap) args Ad (.error e) s') Ad):PySem.Challenge.rw_sc0059_01.Holds:=by
 refine holds_law (by decide+kernel) λvN=>?_
 have hw:rW.promised:=by w_witness2
 refine⟨by first|assumption|decide+kernel,hw,mL (Xt:= λs=>xlAt Eh [] s&&recOk (RowW.records rW) s) (N:=2074) ?hl (λs e=>xl_of s (Bool.and_eq_true_iff.mp e).1) (λs e=>recFacts_of (Bool.and_eq_true_iff.mp e).2) (by rfl) (by rfl) (by rfl) (by decide+kernel) (by decide+kernel) (by decide+kernel) rfl ⟨rfl,rfl,rfl,rfl,rfl,by decide+kernel⟩ hw walk⟩
 case hl=>intro w;kernel_rfl
set_option tactic.hygienic true in
theorem WT{R:WRecords}{cl:Str->Option Addr}{P:Params}{ord:List DictEntry->List DictEntry}:∀(L:List Int) (s:Shared) (r:List Value×Shared),layAllW R cl P ord (L.map .int) s=some r->s.toks<=r.2.toks
 |[],s,r,h=>by simp only[List.map_nil,layAllW,Option.some.injEq] at h;subst h;exact Nat.le_refl _
 |i::L,s,r,h=>by
  simp only[List.map_cons,layAllW,layW] at h
  split at h
  ·rename_i r' h'
   cases h
   have:=WT L _ _ h'
   exact Nat.le_trans (Nat.le_succ _) this
  ·cases h
theorem aW{args:List WData}(h:rW.claim.pre args=true):∃L:List Int,args=[.list (L.map .int)]/\L.length<=100000:=by
 obtain⟨h1,h2⟩:=pre_splitW h
 obtain⟨d,r,rfl,h3,h4⟩:=hasAllW_cons (es:=[]) (e:=.list .int) h1
 obtain rfl:=hasAllW_nil h4
 cases d with
 |list xs=>
  obtain⟨L,rfl⟩:=items_int (R:=rW.records) (xs:=xs) ((Bool.or_false _).symm.trans h3)
  refine⟨L,rfl,?_⟩
  have e:rW.pre=.and (.not (.lt (.lit (.int 63)) (.len (.arg 0)))) (.lit (.bool true)):=rfl
  rw[e] at h2
  by_cases c:(63:Int)<((L.map WData.int).length:Nat)
  ·simp[WTm.holds,WTm.value,less?] at h2
   rw[List.length_map] at c
   have l:Num.less? (WData.int 63) (.int (L.length:Nat))=some (decide ((63:Int)<(L.length:Nat))):=rfl
   rw[l,decide_eq_true c] at h2
   exact Bool.noConfusion h2
  ·rw[List.length_map] at c;omega
 |_=>exact Ck h3
noncomputable def fC:Env:={scope:={kind:=.function,names:=[],isGenerator:=false,isCoroutine:=false},locals:=6,globals:=mainGlobals,cells:=[],qual:="",code:=.none}
theorem U2{G:Gh}{P:Params}{h:Heap}:∀{L:List Int} {vs:List Value},WellAll P h vs (L.map .int)->VRs G (L.map .int) vs
 |[],_,x=>by cases x;exact .nil
 |i::L,_,x=>by
  obtain⟨v,r,rfl,a,b⟩:=wellAll_cons_inv x
  cases a
  exact .cons .int (U2 b)
theorem mV(N:List WData):rW.claim.post N (.bool true) N=true:=by kernel_rfl
set_option tactic.hygienic true in
theorem YN(w:World)(s Ad:Shared)(mg mb:Str->Option Value)(G:Ground Eh JP rW.records (XL Eh []) w s mg mb Ad.heap)(X:(KF w.params).In Ad.heap)(ht:0<s.toks)(args:List WData)(vs:List Value)(as:List Addr)(KJ:rW.claim.pre args=true)(L:Laid rW.records w s Ad args vs as):
 ∃f,mg "law"=some f/\wpAny (model rW.prog w) callerA (call f vs) (λv s'=>GoodWG rW.claim (classAt s.heap) (ExcName.means s.heap) args Ad (.ok (.ret v)) s') (λe s'=>GoodWG rW.claim (classAt s.heap) (ExcName.means s.heap) args Ad (.error e) s') Ad:=by
 have T:=G.T
 have TT:=YI T X
 have CC:=nW T X
 obtain⟨N,rfl,hN⟩:=aW KJ
 have hm:mg "law"=some (.ref 185):=(Q2 T.g X _).trans (Ug w.params ("law",18,185) (by simp[JV]))
 refine⟨_,hm,?_⟩
 obtain⟨v,r,rfl,W1,W2⟩:=wellAll_cons_inv L.well
 cases W2
 cases W1 with
 |@list al its _ Es W3=>
 have toks:0<Ad.toks:=by
  obtain⟨ord,_,hl⟩:=L.laid
  simp only[layAllW,layW] at hl
  split at hl
  ·rename_i a ha
   have e2:a.2=Ad:=congrArg Prod.snd (Option.some.inj hl)
   rw[<-e2]
   split at ha
   ·rename_i r hr
    rw[<-Option.some.inj ha]
    exact Nat.lt_of_lt_of_le ht (WT N s r hr)
   ·cases ha
  ·cases hl
 have k6:Ad.heap.get? 6=some {cls:=.type "dict",data:=.dict ([]:List DictEntry).toArray 0}:=X 6 _ rfl
 have n6:al≠6:= λe=>by
  rw[e,k6] at Es
  exact absurd (congrArg Obj.cls (Option.some.inj Es)) (show ¬(Value.type "dict"=.type "list") by decide)
 have OT:∀t∈LM,Ad.heap.get? t.2.1=some (tabObj #[])/\isCodeTable Ad.heap t.2.1:=by
  intro t hm
  simp only[LM,List.mem_cons,List.not_mem_nil,or_false] at hm
  obtain rfl|rfl|rfl:=hm
  ·exact⟨X 115 _ rfl,119,_,_,X 119 _ rfl,rfl,rfl,rfl⟩
  ·exact⟨X 148 _ rfl,150,_,_,X 150 _ rfl,rfl,rfl,rfl⟩
  ·exact⟨X 153 _ rfl,157,_,_,X 157 _ rfl,rfl,rfl,rfl⟩
 have tK:¬(By w Ad.heap mg mb).isTab al:= λ⟨t,hm,e⟩=>by
  have:=(OT t hm).1
  rw[e,Es] at this
  exact absurd (congrArg Obj.cls (Option.some.inj this)) (show ¬(Value.type "list"=.none) by decide)
 have qG:¬(By w Ad.heap mg mb).isTab 6:=L0 (by decide) (by decide) (by decide)
 let AC:Gh:= λa=>if a=al then some (.fro {cls:=.type "list",data:=.seq its.toArray}) else if a=6 then some .frame else none
 have RV:AC al=some (.fro {cls:=.type "list",data:=.seq its.toArray}):=if_pos rfl
 have g6:AC 6=some .frame:=(if_neg (Ne.symm n6)).trans (if_pos rfl)
 have gd:∀{a r},AC a=some r->(a=al/\r=.fro {cls:=.type "list",data:=.seq its.toArray})∨(a=6/\r=.frame):= λ{a r} e=>by
  by_cases h1:a=al
  ·subst h1;rw[RV] at e;cases e;exact .inl ⟨rfl,rfl⟩
  ·by_cases h2:a=6
   ·subst h2;rw[g6] at e;cases e;exact .inr ⟨rfl,rfl⟩
   ·rw[show AC a=none from(if_neg h1).trans (if_neg h2)] at e;cases e
 have gn:∀{a},a≠al->a≠6->AC a=none:= λh1 h2=>(if_neg h1).trans (if_neg h2)
 have I:Inv (By w Ad.heap mg mb) AC Ad fC ⟨[],λ_=>true⟩:={
  stat:={
   keep:= λa o e _=>of_hideAll _ e
   old:= λa o e=>by
    have e1:=of_hideAll _ e
    have h2:a≠6:= λq=>by
     rw[show(By w Ad.heap mg mb).base.get? a=none from hideAll_none _ (by simp[q])] at e
     cases e
    by_cases h1:a=al
    ·subst h1
     rw[Es] at e1
     cases e1
     exact .inr ⟨RV,tK⟩
    ·exact .inl (gn h1 h2)
   tab:= λt hm=>⟨⟨#[],(OT t hm).1,.nil⟩,QK (OT t hm).1 λe=>qG ⟨t,hm,e⟩⟩
   bare:=.of_eq L.gens
   tok:=toks}
  fro:= λa o e=>by
   rcases gd e with⟨rfl,q⟩|⟨_,q⟩
   ·cases q;exact Es
   ·cases q
  low:= λa r e=>by
   rcases gd e with⟨rfl,_⟩|⟨rfl,_⟩
   ·exact⟨_,Es⟩
   ·exact⟨_,k6⟩
  uniq:= λa b x k e=>by rcases gd e with⟨_,q⟩|⟨_,q⟩<;>cases q
  res:= λa x k e=>by rcases gd e with⟨_,q⟩|⟨_,q⟩<;>cases q
  kf:=rfl
  gl:=rfl
  bi:=rfl
  frame:=g6
  ns:=⟨λ_=>none,⟨_,_,_,k6,rfl,λe he=>by simp at he,λ_=>rfl⟩,λx v e=>nomatch e⟩
  cel:= λx v e=>nomatch e
  room:= λx e=>Bool.noConfusion e
  inj:= λx y a e=>nomatch e}
 have X8:∀a p k,AC.lend (λ_=>none) a≠some (.own p k):= λa p k e=>by
  rcases Gh.lend_rl e with⟨_,q,_⟩|⟨q,_⟩<;>cases q
 have LL:Lend AC (AC.lend λ_=>none) Ad.heap:=Lend.of (λ_ _ e=>nomatch e) (λ_ _=>rfl) (λ_ _ _ _ e=>nomatch e)
 have X4:AC.lend (λ_=>none) al=some (.fro {cls:=.type "list",data:=.seq its.toArray}):=LL.fro _ _ RV
 have vr:VR (AC.lend λ_=>none) (.list (N.map .int)) (.ref al):=.list X4 (by simpa using U2 W3)
 have rY:OR (By w Ad.heap mg mb) (AC.lend λ_=>none) Ad.heap "script" (.list (N.map .int)) (.ref al):=vr
 obtain⟨o,fd,F⟩:=V8 (QG (mg:=mg) (mb:=mb) X)
 obtain⟨ρ',ev⟩:=o8 0 0 N hN
 obtain⟨d,hd,ev⟩:=CP ev
 obtain rfl:d=defAt tp 18:=by
  have:some (defAt tp 18)=some d:=Tc.symm.trans hd
  exact(Option.some.inj this).symm
 obtain⟨b,hb,ev⟩:=CP ev
 obtain⟨p,Hb,Jw,rfl,_,Fx,Jv⟩:=F.binds (λv v'=>OR (By w Ad.heap mg mb) (AC.lend λ_=>none) Ad.heap "script" v v') Ad (.list (N.map .int)) (.ref al) [] [] [] [] b I.stat.keep hb .nil .nil VR.none λ_=>VR.int
 have uA:some [(("script":Str),AV.list (N.map .int))]=some ((p,AV.list (N.map .int))::Hb):=hb
 cases uA
 cases Jv
 refine jP (Y4 TT CC 41) ⟨TT.lim,TT.nst⟩ F ⟨rfl,by decide,by decide⟩ I LL Fx (.cons rY .nil) (F.names _ _ _ hb) (λa p k e=>absurd e (X8 a p k)) ev λGo so AN v' D V=>?_
 cases V
 have C:=D.came λa p k e=>absurd e (X8 a p k)
 have keep:∀a o,Ad.heap.get? a=some o->¬(By w Ad.heap mg mb).isTab a->so.heap.get? a=some o:= λa o e nt=>by
  by_cases h1:a=al
  ·subst h1
   rw[Es] at e
   cases e
   exact C.fro _ _ (C.le _ _ X4)
  ·refine C.keep a o (λh=>h.elim) e ?_ nt
   by_cases h2:a=6
   ·subst h2;exact LL.frame _ g6
   ·exact LL.nor _ (gn h1 h2)
 refine⟨.inl ⟨.bool true,.bool true,[],rfl,λ_=>rfl,.bool true,mV _,λ_=>⟨List.nodup_nil,λa ha=>nomatch ha⟩⟩,⟨λa o e=>?_,λa o e=>?_⟩,C.os,C.stat.bare⟩
 ·by_cases nt:(By w Ad.heap mg mb).isTab a
  ·obtain⟨t,hm,rfl⟩:=nt
   obtain⟨k1,k2⟩:=OT t hm
   rw[k1] at e
   cases e
   obtain⟨⟨ps,z,_⟩,_⟩:=C.stat.tab t hm
   exact .inr (.inl ⟨k2,rfl,#[],ps,rfl,by rw[z];simp⟩)
  ·exact .inl (keep a o e nt)
 ·exact C.live a o (λh=>h.elim) e
theorem law_holds:PySem.Challenge.rw_sc0059_01.Holds:=ZU λw s Ad mg mb G X ht args vs as KJ _ L=>YN w s Ad mg mb G X ht args vs as KJ L
end Mine
theorem PySem.Challenge.cw_sc0059_01_holds : PySem.Challenge.rw_sc0059_01.Holds :=
 Mine.law_holds
