/- CERTIFICATES: the logarithm's series, the inverse hyperbolic tangent's. -/
import Derived.Test.YthlakefgobflnaaGreatDoorBak
namespace Go.Proofs.YthlakefgobflnaaGreatDoor.An
set_option linter.unusedVariables false
def sgk:Nat→Rat
 |0=> -1
 |k+1=> -sgk k
def lc:Nat→Rat
 |0=>0
 |k+1=>sgk (k+1)/((k+1:Nat):Rat)
theorem sgk_sq(k:Nat):sgk k*sgk k=1:=by
 induction k with
 |zero=>simp only[sgk];grind
 |succ k ih=>simp only[sgk];grind
theorem lc_mul(k:Nat):lc (k+1)*((k+1:Nat):Rat)=sgk (k+1):=by
 have:=natpos k;simp only[lc]
 grind
def S(n:Nat)(t:Rat):Rat:=ev lc id (n+1) t
theorem S_dv(n:Nat)(t:Rat):dv lc id (n+1) t*(1+t)=1+sgk n*t^n:=by
 induction n with
 |zero=>
  simp only[dv,lc,id,sgk,Rat.pow_zero]
  grind
 |succ n ih=>
  have h:=lc_mul n;rw[dv];simp only[id,Nat.add_sub_cancel,Rat.pow_succ];have e:(dv lc id (n+1) t+lc (n+1)*(((n+1:Nat):Rat)*t^n))*(1+t)=dv lc id (n+1) t*(1+t)+(lc (n+1)*((n+1:Nat):Rat))*t^n*(1+t):=by grind
  rw[e,ih,h];simp only[sgk]
  grind
theorem S_zero(n:Nat):S n 0=0:=by
 unfold S;induction n with
 |zero=>simp only[ev,lc];grind
 |succ n ih=>
  rw[ev,ih];simp only[id,Rat.pow_succ]
  grind
theorem S_step(n:Nat)(y s d:Rat)(hy:Ab y (1/2))(h0:0≤s)(hd:0<d)(h1:s+d≤1):
 Ab (S n (s*y+d*y)-S n (s*y)-d*y*dv lc id (n+1) (s*y)) (cb lc id (n+1)*(d*d)):=by
 have ht:=seg_ab hy h0 (by grind);have hh:=seg_ab hy (s:=s+d) (by grind) h1;rw[show(s+d)*y=s*y+d*y by grind]at hh;have h:=ev_step lc id (n+1) (s*y) (d*y) (ht.le (by grind)) (hh.le (by grind));have hc:=cb_nonneg lc id (n+1);refine h.le ?_;have h2:y*y≤1:=by have:=(hy.mul hy).2;grind
 have h3:=Rat.mul_nonneg hc (sq_nonneg d);have h4:=Rat.mul_le_mul_of_nonneg_left h2 h3
 grind
theorem S_slope(n:Nat)(y s d K L m:Rat)(hy:Ab y (1/2))(hK:Ab (2*y^n) K)(hL:L*y=K*m)(hm:m=y∨m= -y)(hm0:0≤m)(a:0≤s)(b:0<d)(c:s+d≤1):
 Ab (d*y*(dv lc id (n+1) (s*y)-1/(1+s*y))) (L*(d*y)):=by
 have ht:=seg_ab hy a (show s≤1 by grind);have hp:0<1+s*y:=by have:=ht.1;grind
 have h1:=S_dv n (s*y);have h2:=last_ab n hK a (show s≤1 by grind);have hsg:Ab (sgk n) 1:=by
  have:=sgk_sq n;have e1:=sq_nonneg (sgk n-1);have e2:=sq_nonneg (sgk n+1);constructor
  ·grind
  ·grind
 have hmy:Ab y m:=by
  rcases hm with h|h
  ·constructor<;>grind
  ·constructor<;>grind
 have hdd:Ab d d:=⟨by grind,Rat.le_refl⟩;have h3:=(hdd.mul hmy).mul (hsg.mul h2);have e:dv lc id (n+1) (s*y)-1/(1+s*y)=sgk n*(s*y)^n*(1/(1+s*y)):=by grind
 have hi:0≤1/(1+s*y)∧1/(1+s*y)≤2:=⟨Rat.le_of_lt (div_pos (by decide) hp),div_le hp (by have:=ht.1;grind)⟩;rw[e,show d*y*(sgk n*(s*y)^n*(1/(1+s*y)))=d*y*(sgk n*(2*(s*y)^n))*(1/2*(1/(1+s*y))) by grind];have hi2:Ab (1/2*(1/(1+s*y))) 1:=by constructor<;>grind
 have h4:=h3.mul hi2;refine h4.le ?_;rw[show L*(d*y)=d*(L*y) by grind,hL]
 grind
theorem ln_S(n:Nat)(y K L m:Rat)(hy:Ab y (1/2))(hK:Ab (2*y^n) K)(hL:L*y=K*m)(hm:m=y∨m= -y)(hm0:0≤m):
 UB (S n y+K*m) (1+y)∧UB (-(S n y)+K*m) (1/(1+y)):=by
 have hc:=cb_nonneg lc id (n+1);have hp: ∀s,0≤s→s≤1→1/2≤1+s*y:=fun s a b=>by have:=(seg_ab hy a b).1;grind
 constructor
 ·have h:=master (fun t=>1+t) (fun t=>S n t+L*t) y (cb lc id (n+1)) (fun s a b=>by have:=hp s a b;clear hp;grind) (fun s d a b c=>by
   have h0:=hp s a (by clear hp;grind);have h1:=(S_step n y s d hy a b c).1;have h2:=(S_slope n y s d K L m hy hK hL hm hm0 a b c).1;clear hp hK;have e:(1+(s*y+d*y))/(1+s*y)-1=d*y*(1/(1+s*y)):=by
    have:0<1+s*y:=by grind
    grind
   rw[e];generalize dv lc id (n+1) (s*y)=v at*;generalize S n (s*y+d*y)=u at*;generalize S n (s*y)=w at*;generalize 1/(1+s*y)=q at*
   grind)
  clear hp;simp only[S_zero]at h;exact h.mono (by grind) (by grind)
 ·have h:=master (fun t=>1/(1+t)) (fun t=> -(S n t)+L*t) y (cb lc id (n+1)+4) (fun s a b=>by have:=hp s a b;clear hp;exact div_pos (by decide) (by grind)) (fun s d a b c=>by
   have h0:=hp s a (by clear hp;grind);have h0':=hp (s+d) (by clear hp;grind) c;rw[show(s+d)*y=s*y+d*y by clear hp;grind]at h0';have h1:=(S_step n y s d hy a b c).2;have h2:=(S_slope n y s d K L m hy hK hL hm hm0 a b c).2;clear hp hK;have p1:0<1+s*y:=by grind
   have p2:0<1+(s*y+d*y):=by grind
   have e:1/(1+(s*y+d*y))/(1/(1+s*y))-1= -(d*y*(1/(1+s*y)))+(d*y)*(d*y)*(1/(1+s*y)*(1/(1+(s*y+d*y)))):=by grind
   have i1:0≤1/(1+s*y)∧1/(1+s*y)≤2:=⟨Rat.le_of_lt (div_pos (by decide) p1),div_le p1 (by grind)⟩;have i2:0≤1/(1+(s*y+d*y))∧1/(1+(s*y+d*y))≤2:=⟨Rat.le_of_lt (div_pos (by decide) p2),div_le p2 (by grind)⟩;have i3:=mul_mono i1.1 i2.1 i1.2 i2.2;have i4:(d*y)*(d*y)≤d*d:=by
    have h5:y*y≤1:=by have:=(hy.mul hy).2;grind
    have h6:=Rat.mul_le_mul_of_nonneg_left h5 (sq_nonneg d)
    grind
   have i5:=mul_mono (sq_nonneg (d*y)) (Rat.mul_nonneg i1.1 i2.1) i4 i3;rw[e];clear e i1 i2 i3 i4 p1 p2 h0 h0';generalize dv lc id (n+1) (s*y)=v at*;generalize S n (s*y+d*y)=u at*;generalize S n (s*y)=w at*;generalize (d*y)*(d*y)*(1/(1+s*y)*(1/(1+(s*y+d*y))))=x at*;generalize 1/(1+s*y)=q at*
   grind)
  clear hp;simp only[S_zero]at h;exact h.mono (by grind) (by grind)
theorem ln_both(n:Nat)(y K m:Rat)(hy:Ab y (1/2))(hK:Ab (2*y^n) K)(hm:m=y∨m= -y)(hm0:0≤m):UB (S n y+K*m) (1+y)∧UB (-(S n y)+K*m) (1/(1+y)):=by
 rcases hm with h|h
 ·exact ln_S n y K K m hy hK (by rw[h]) (.inl h) hm0
 ·exact ln_S n y K (-K) m hy hK (by rw[h];grind) (.inr h) hm0
theorem dd_inv{p q r s:Rat}(hq:0<q)(hr:0<r)(hs:0<s):p/q/(r/s)=p*s*(1/q*(1/r)):=by
 have h1:(r/s)⁻¹ =s*(1/r):=by
  have e:r/s*(s*(1/r))=1:=by grind
  have e2:0<r/s:=div_pos hr hs
  grind
 rw[Rat.div_def (p/q),h1]
 grind
theorem inv_mul2{a b:Rat}(ha:0<a)(hb:0<b):1/(a*b)=1/a*(1/b):=by
 have e:a*b*(1/a*(1/b))=1:=by grind
 have h:=Rat.mul_pos ha hb
 grind
theorem at_e1(x z:Rat)(p1:0<1-x)(p2:0<1+x)(p3:0<1-(x+z)):(1+(x+z))/(1-(x+z))/((1+x)/(1-x))-1=z*(2*(1/((1-x)*(1+x))))+z*z*(2*(1/((1-x)*(1+x))))*(1/(1-(x+z))):=by
 rw[dd_inv p3 p2 p1,inv_mul2 p1 p2];have e1:(1-x)*(1/(1-x))=1:=by grind
 have e2:(1+x)*(1/(1+x))=1:=by grind
 have e3:(1-(x+z))*(1/(1-(x+z)))=1:=by grind
 generalize 1/(1-x)=i at*;generalize 1/(1+x)=j at*;generalize 1/(1-(x+z))=k at*
 grind
theorem at_e2(x z:Rat)(p1:0<1-x)(p2:0<1+x)(p3:0<1+(x+z)):(1-(x+z))/(1+(x+z))/((1-x)/(1+x))-1= -(z*(2*(1/((1-x)*(1+x)))))+z*z*(2*(1/((1-x)*(1+x))))*(1/(1+(x+z))):=by
 rw[dd_inv p3 p1 p2,inv_mul2 p1 p2];have e1:(1-x)*(1/(1-x))=1:=by grind
 have e2:(1+x)*(1/(1+x))=1:=by grind
 have e3:(1+(x+z))*(1/(1+(x+z)))=1:=by grind
 generalize 1/(1-x)=i at*;generalize 1/(1+x)=j at*;generalize 1/(1+(x+z))=k at*
 grind
def ac(k:Nat):Rat:=2/((2*k+1:Nat):Rat)
def ae(k:Nat):Nat:=2*k+1
def A(n:Nat)(t:Rat):Rat:=ev ac ae n t
theorem ac_mul(k:Nat):ac k*((2*k+1:Nat):Rat)=2:=by
 have:=natpos (2*k);unfold ac
 grind
theorem pow_even(t:Rat)(n:Nat):t^(2*n)=(t*t)^n:=by
 induction n with
 |zero=>show t^0=_;rw[Rat.pow_zero,Rat.pow_zero]
 |succ n ih=>rw[show 2*(n+1)=2*n+1+1 by omega,Rat.pow_succ,Rat.pow_succ,ih,Rat.pow_succ];grind
theorem A_dv(n:Nat)(t:Rat):dv ac ae n t*(1-t*t)=2*(1-(t*t)^n):=by
 induction n with
 |zero=>simp only[dv,Rat.pow_zero];grind
 |succ n ih=>
  have h:=ac_mul n;rw[dv];simp only[ae,Nat.add_sub_cancel,pow_even];have e:(dv ac ae n t+ac n*(((2*n+1:Nat):Rat)*(t*t)^n))*(1-t*t)=dv ac ae n t*(1-t*t)+(ac n*((2*n+1:Nat):Rat))*(t*t)^n*(1-t*t):=by grind
  rw[e,ih,h,Rat.pow_succ]
  grind
theorem A_zero(n:Nat):A n 0=0:=by
 unfold A;induction n with
 |zero=>simp only[ev]
 |succ n ih=>
  rw[ev,ih];simp only[ae,Rat.pow_succ]
  grind
theorem A_step(n:Nat)(u s d:Rat)(hu:0≤u)(hu1:u≤1/3)(h0:0≤s)(hd:0<d)(h1:s+d≤1):
 Ab (A n (s*u+d*u)-A n (s*u)-d*u*dv ac ae n (s*u)) (cb ac ae n*(d*d)):=by
 have hy:Ab u (1/3):=⟨by grind,hu1⟩;have ht:=seg_ab hy h0 (by grind);have hh:=seg_ab hy (s:=s+d) (by grind) h1;rw[show(s+d)*u=s*u+d*u by grind]at hh;have h:=ev_step ac ae n (s*u) (d*u) (ht.le (by grind)) (hh.le (by grind));have hc:=cb_nonneg ac ae n;refine h.le ?_;have h2:u*u≤1:=by have:=(hy.mul hy).2;grind
 have h3:=Rat.mul_nonneg hc (sq_nonneg d);have h4:=Rat.mul_le_mul_of_nonneg_left h2 h3
 grind
theorem at_both(n:Nat)(u K:Rat)(hu:0≤u)(hu1:u≤1/3)(hK:9/4*(u*u)^n≤K):UB (A n u+K*u) ((1+u)/(1-u))∧UB (-(A n u)) ((1-u)/(1+u)):=by
 have hc:=cb_nonneg ac ae n;have hy:Ab u (1/3):=⟨by grind,hu1⟩;have seg: ∀s,0≤s→s≤1→0≤s*u∧s*u≤1/3:=fun s a b=>⟨Rat.mul_nonneg a hu,(seg_ab hy a b).2⟩
 have slope: ∀s,0≤s→s≤1→dv ac ae n (s*u)≤2*(1/((1-s*u)*(1+s*u)))∧2*(1/((1-s*u)*(1+s*u)))≤dv ac ae n (s*u)+K:=fun s a b=>by
  obtain⟨h1,h2⟩:=seg s a b;have h3:=A_dv n (s*u);have hp:0<(1-s*u)*(1+s*u):=Rat.mul_pos (by clear seg;grind) (by clear seg;grind);have h4:(s*u)*(s*u)≤1/9:=by have:=mul_mono h1 h1 h2 h2;clear seg;grind
  have h5:0≤((s*u)*(s*u))^n:=Rat.pow_nonneg (sq_nonneg _);have h6:((s*u)*(s*u))^n≤(u*u)^n:=by
   have hs:Ab (s*s) 1:=by
    have:=mul_mono a a b b;have:=sq_nonneg s;clear seg;constructor<;>grind
   have e7:=(hs.pow n).2;rw[one_pow]at e7;rw[show s*u*(s*u)=s*s*(u*u) by clear seg;grind,mul_pow];have:=Rat.mul_le_mul_of_nonneg_right e7 (Rat.pow_nonneg (n:=n) (sq_nonneg u));clear seg
   grind
  have hw:(1-s*u)*(1+s*u)=1-s*u*(s*u):=by clear seg;grind
  have hi:1/((1-s*u)*(1+s*u))≤9/8:=div_le hp (by rw[hw];clear seg;grind);have hi0:0<1/((1-s*u)*(1+s*u)):=div_pos (by decide) hp;have e:dv ac ae n (s*u)=2*(1-((s*u)*(s*u))^n)*(1/((1-s*u)*(1+s*u))):=by
   rw[←h3,←hw];clear seg
   grind
  have h8:0≤((s*u)*(s*u))^n*(1/((1-s*u)*(1+s*u))):=Rat.mul_nonneg h5 (Rat.le_of_lt hi0);have h9:=mul_mono h5 (Rat.le_of_lt hi0) h6 hi;rw[e];clear seg e h3 hw hp;generalize 1/((1-s*u)*(1+s*u))=q at*;generalize ((s*u)*(s*u))^n=p at*;constructor<;>grind
 constructor
 ·have h:=master (fun t=>(1+t)/(1-t)) (fun t=>A n t+K*t) u (cb ac ae n+5) (fun s a b=>by obtain⟨h1,h2⟩:=seg s a b;clear seg slope;exact div_pos (by grind) (by grind)) (fun s d a b c=>by
   have hs1:s≤1:=by clear seg slope;grind
   obtain⟨h1,h2⟩:=seg s a hs1;obtain⟨h3,h4⟩:=seg (s+d) (by clear seg slope;grind) c;have h5:=(A_step n u s d hu hu1 a b c).1;have h6:=(slope s a hs1).2;clear seg slope;rw[show(s+d)*u=s*u+d*u by grind]at h3 h4;have p1:0<1-s*u:=by grind
   have p2:0<1+s*u:=by grind
   have p3:0<1-(s*u+d*u):=by grind
   have e:(1+(s*u+d*u))/(1-(s*u+d*u))/((1+s*u)/(1-s*u))-1=d*u*(2*(1/((1-s*u)*(1+s*u))))+(d*u)*(d*u)*(2*(1/((1-s*u)*(1+s*u))))*(1/(1-(s*u+d*u))):=at_e1 _ _ p1 p2 p3;have hi:1/((1-s*u)*(1+s*u))≤9/8:=div_le (Rat.mul_pos p1 p2) (by have:=mul_mono h1 h1 h2 h2;grind);have hi0:0<1/((1-s*u)*(1+s*u)):=div_pos (by decide) (Rat.mul_pos p1 p2);have hj:1/(1-(s*u+d*u))≤3/2:=div_le p3 (by grind);have hj0:0<1/(1-(s*u+d*u)):=div_pos (by decide) p3;have hdu:(d*u)*(d*u)≤d*d:=by
    have h5:u*u≤1:=by have:=(hy.mul hy).2;grind
    have h6:=Rat.mul_le_mul_of_nonneg_left h5 (sq_nonneg d)
    grind
   have hx:=mul_mono (Rat.mul_nonneg (sq_nonneg (d*u)) (show 0≤2*(1/((1-s*u)*(1+s*u))) by grind)) (Rat.le_of_lt hj0) (mul_mono (sq_nonneg (d*u)) (show 0≤2*(1/((1-s*u)*(1+s*u))) by grind) hdu (show 2*(1/((1-s*u)*(1+s*u)))≤9/4 by grind)) hj;have hdu0:0≤d*u:=Rat.mul_nonneg (Rat.le_of_lt b) hu;have hsl:=Rat.mul_le_mul_of_nonneg_left h6 hdu0;have hdd:=sq_nonneg d;rw[e];clear e hi hi0 hj hj0 hdu p1 p2 p3 h1 h2 h3 h4 h6;generalize (d*u)*(d*u)*(2*(1/((1-s*u)*(1+s*u))))*(1/(1-(s*u+d*u)))=x at*;generalize 2*(1/((1-s*u)*(1+s*u)))=q at*;generalize dv ac ae n (s*u)=v at*;generalize A n (s*u+d*u)=a1 at*;generalize A n (s*u)=a2 at*
   grind)
  clear seg slope;simp only[A_zero]at h;exact h.mono (by grind) (by grind)
 ·have h:=master (fun t=>(1-t)/(1+t)) (fun t=> -(A n t)) u (cb ac ae n+5) (fun s a b=>by obtain⟨h1,h2⟩:=seg s a b;clear seg slope;exact div_pos (by grind) (by grind)) (fun s d a b c=>by
   have hs1:s≤1:=by clear seg slope;grind
   obtain⟨h1,h2⟩:=seg s a hs1;obtain⟨h3,h4⟩:=seg (s+d) (by clear seg slope;grind) c;have h5:=(A_step n u s d hu hu1 a b c).2;have h6:=(slope s a hs1).1;clear seg slope;rw[show(s+d)*u=s*u+d*u by grind]at h3 h4;have p1:0<1-s*u:=by grind
   have p2:0<1+s*u:=by grind
   have p3:0<1+(s*u+d*u):=by grind
   have e:(1-(s*u+d*u))/(1+(s*u+d*u))/((1-s*u)/(1+s*u))-1= -(d*u*(2*(1/((1-s*u)*(1+s*u)))))+(d*u)*(d*u)*(2*(1/((1-s*u)*(1+s*u))))*(1/(1+(s*u+d*u))):=at_e2 _ _ p1 p2 p3;have hi:1/((1-s*u)*(1+s*u))≤9/8:=div_le (Rat.mul_pos p1 p2) (by have:=mul_mono h1 h1 h2 h2;grind);have hi0:0<1/((1-s*u)*(1+s*u)):=div_pos (by decide) (Rat.mul_pos p1 p2);have hj:1/(1+(s*u+d*u))≤3/2:=div_le p3 (by grind);have hj0:0<1/(1+(s*u+d*u)):=div_pos (by decide) p3;have hdu:(d*u)*(d*u)≤d*d:=by
    have h5:u*u≤1:=by have:=(hy.mul hy).2;grind
    have h6:=Rat.mul_le_mul_of_nonneg_left h5 (sq_nonneg d)
    grind
   have hx:=mul_mono (Rat.mul_nonneg (sq_nonneg (d*u)) (show 0≤2*(1/((1-s*u)*(1+s*u))) by grind)) (Rat.le_of_lt hj0) (mul_mono (sq_nonneg (d*u)) (show 0≤2*(1/((1-s*u)*(1+s*u))) by grind) hdu (show 2*(1/((1-s*u)*(1+s*u)))≤9/4 by grind)) hj;have hdu0:0≤d*u:=Rat.mul_nonneg (Rat.le_of_lt b) hu;have hsl:=Rat.mul_le_mul_of_nonneg_left h6 hdu0;have hdd:=sq_nonneg d;rw[e];clear e hi hi0 hj hj0 hdu p1 p2 p3 h1 h2 h3 h4 h6;generalize (d*u)*(d*u)*(2*(1/((1-s*u)*(1+s*u))))*(1/(1+(s*u+d*u)))=x at*;generalize 2*(1/((1-s*u)*(1+s*u)))=q at*;generalize dv ac ae n (s*u)=v at*;generalize A n (s*u+d*u)=a1 at*;generalize A n (s*u)=a2 at*
   grind)
  clear seg slope;simp only[A_zero]at h;exact h.mono (by grind) (by grind)
end Go.Proofs.YthlakefgobflnaaGreatDoor.An
