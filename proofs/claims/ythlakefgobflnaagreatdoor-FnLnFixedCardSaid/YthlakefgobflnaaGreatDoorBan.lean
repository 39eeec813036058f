/- THE PROGRAM's LOGARITHM in whole numbers: the series of ln (1 + z), and all together. THE REFERENCE's LOGARITHM in whole numbers: the series of the inverse hyperbolic tangent; and that it fits the program's. THE REFERENCE's SERIES BY WORTH: doubled. -/
import Derived.Test.YthlakefgobflnaaGreatDoorBam
import Derived.Test.YthlakefgobflnaaGreatDoorBak
namespace Go.Proofs.YthlakefgobflnaaGreatDoor.An
set_option linter.unusedVariables false
theorem least(P:Nat→Prop)(N:Nat)(h:P N): ∃n,n≤N∧P n∧∀k,k<n→¬P k:=by
 induction N using Nat.strongRecOn with
 |ind N ih=>
  by_cases hk: ∃k,k<N∧P k
  ·obtain⟨k,h1,h2⟩:=hk;obtain⟨n,h3,h4,h5⟩:=ih k h1 h2;exact⟨n,by omega,h4,h5⟩
  ·exact⟨N,Nat.le_refl _,h,fun k hk' hp=>hk ⟨k,hk',hp⟩⟩
def lnp(z:Int)(b:Nat):Nat→Int
 |0=>z
 |k+1=>lnp z b k*z/((2^b:Nat):Int)
def lns(z:Int)(b:Nat):Nat→Int
 |0=>z
 |k+1=>if(k+2)%2=0 then lns z b k-Int.tdiv (lnp z b (k+1)) ((k+2:Nat):Int)else lns z b k+Int.tdiv (lnp z b (k+1)) ((k+2:Nat):Int)
theorem fl_ab{f:Int}{v G:Rat}(hG:0<G)(h1:G*(f:Rat)≤v*G)(h2:v*G<G*(f:Rat)+G):Ab ((f:Rat)-v) 1:=by
 have a3:(f:Rat)≤v:=by
  rcases rlt v (f:Rat)with h|h
  ·have:=Rat.mul_lt_mul_of_pos_left h hG
   grind
  ·exact h
 have b3:v≤(f:Rat)+1:=by
  rcases rlt ((f:Rat)+1) v with h|h
  ·have:=Rat.mul_lt_mul_of_pos_left h hG
   grind
  ·exact h
 constructor<;>grind
theorem lnp_near(z:Int)(b:Nat)(y:Rat)(hy:y*((2^b:Nat):Rat)=(z:Rat))(hab:Ab y (1/2))(k:Nat):Ab ((lnp z b k:Rat)-y^(k+1)*((2^b:Nat):Rat)) 2:=by
 have hB:=npos (pow2_pos b);induction k with
 |zero=>
  simp only[lnp,Rat.pow_succ,Rat.pow_zero];rw[←hy];constructor<;>grind
 |succ k ih=>
  obtain⟨h1,h2⟩:=fl_le (lnp z b k*z) (2^b) (pow2_pos b);rw[Rat.intCast_mul,←hy]at h1 h2;simp only[lnp];generalize lnp z b k*z/((2^b:Nat):Int)=f at*;generalize (lnp z b k:Rat)=t at*;generalize ((2^b:Nat):Rat)=G at*;have hf:Ab ((f:Rat)-t*y) 1:=fl_ab hB (by grind) (by grind);have hd:=ih.mul hab;rw[Rat.pow_succ y (k+1)];rw[show(f:Rat)-y^(k+1)*y*G=((f:Rat)-t*y)+(t-y^(k+1)*G)*y by grind];exact(hf.add hd).le (by grind)
theorem sgk_even(k:Nat):sgk k=if k%2=0 then-1 else 1:=by
 induction k with
 |zero=>rfl
 |succ k ih=>
  simp only[sgk];rw[ih];rcases Nat.mod_two_eq_zero_or_one k with h|h
  ·rw[if_pos h,if_neg (by omega)];grind
  ·rw[if_neg (by omega),if_pos (by omega)]
theorem lns_near(z:Int)(b:Nat)(y:Rat)(hy:y*((2^b:Nat):Rat)=(z:Rat))(hab:Ab y (1/2))(k:Nat):Ab ((lns z b k:Rat)-S (k+1) y*((2^b:Nat):Rat)) (2*(k:Rat)):=by
 have hB:=npos (pow2_pos b);induction k with
 |zero=>
  have e:S (0+1) y=y:=by
   unfold S;simp only[ev,lc,sgk,id,Rat.pow_succ,Rat.pow_zero];have:((0+1:Nat):Rat)=1:=rfl
   grind
  have e0:((0:Nat):Rat)=0:=rfl;simp only[lns];rw[e,e0,hy];constructor<;>grind
 |succ k ih=>
  have hp:=lnp_near z b y hy hab (k+1);have ht:=td_ab (lnp z b (k+1)) (k+2) (by omega);have e:S (k+1+1) y=S (k+1) y+lc (k+2)*y^(k+2):=by
   unfold S;rw[ev];simp only[id]
  have hl:=lc_mul (k+1);have hc:(2:Rat)≤((k+2:Nat):Rat):=by exact_mod_cast (show 2≤k+2 by omega)
  have hcc:=cast_succ k;simp only[lns];rw[e,hcc];generalize Int.tdiv (lnp z b (k+1)) ((k+2:Nat):Int)=q at*;generalize (lnp z b (k+1):Rat)=p at*;generalize ((2^b:Nat):Rat)=G at*;rw[show k+1+1=k+2 from rfl]at hl hp;generalize ((k+2:Nat):Rat)=c at*;generalize hw:y^(k+2)=w at*;have hq:Ab ((q:Rat)-w*G*(1/c)) 2:=by
   have h3:Ab (c*(q:Rat)-w*G) (2*c):=by
    rw[show c*(q:Rat)-w*G=(c*(q:Rat)-p)+(p-w*G) by grind];exact(ht.add hp).le (by grind)
   have h4:0<1/c:=div_pos (by decide) (by grind);have h5:=(show Ab (1/c) (1/c)from⟨by grind,Rat.le_refl⟩).mul h3;rw[show 1/c*(c*(q:Rat)-w*G)=(q:Rat)-w*G*(1/c) by grind,show 1/c*(2*c)=2 by grind]at h5;exact h5
  have hlc:lc (k+2)=sgk (k+2)*(1/c):=by grind
  rw[hlc,sgk_even]
  split
  ·rw[Rat.intCast_sub];obtain⟨a1,a2⟩:=ih;obtain⟨b1,b2⟩:=hq;constructor<;>grind
  ·rw[Rat.intCast_add];obtain⟨a1,a2⟩:=ih;obtain⟨b1,b2⟩:=hq;constructor<;>grind
theorem lns_cert(z:Int)(b k:Nat)(hz:Ab (z:Rat) (1/2*((2^b:Nat):Rat)))(h0:lnp z b (k+1)=0):
 UB (((lns z b k:Rat)+2*(k:Rat)+4)/((2^b:Nat):Rat)) (((z:Rat)+((2^b:Nat):Rat))/((2^b:Nat):Rat))∧
 UB ((-(lns z b k:Rat)+2*(k:Rat)+4)/((2^b:Nat):Rat)) (((2^b:Nat):Rat)/((z:Rat)+((2^b:Nat):Rat))):=by
 have hB:=npos (pow2_pos b);have hy:(z:Rat)/((2^b:Nat):Rat)*((2^b:Nat):Rat)=(z:Rat):=by grind
 generalize (z:Rat)/((2^b:Nat):Rat)=y at*;have hab:Ab y (1/2):=by
  rw[←hy]at hz;obtain⟨a,c⟩:=hz;constructor
  ·rcases rlt y (-(1/2))with h|h
   ·have:=Rat.mul_lt_mul_of_pos_right h hB
    grind
   ·exact h
  ·rcases rlt (1/2) y with h|h
   ·have:=Rat.mul_lt_mul_of_pos_right h hB
    grind
   ·exact h
 have h1:=lns_near z b y hy hab k;have h2:=lnp_near z b y hy hab (k+1);rw[h0]at h2;have e0:((0:Int):Rat)=0:=rfl;rw[e0]at h2;obtain⟨m,hm,hm0⟩: ∃m:Rat,(m=y∨m= -y)∧0≤m:=by
  rcases rlt y 0 with h|h
  ·exact⟨-y,.inr rfl,by grind⟩
  ·exact⟨y,.inl rfl,h⟩
 obtain⟨K,hK,hKm⟩: ∃K:Rat,Ab (2*y^(k+1)) K∧(K*m=2*y^(k+2)∨K*m= -(2*y^(k+2))):=by
  rw[Rat.pow_succ y (k+1)];rcases rlt (y^(k+1)) 0 with h|h
  ·refine⟨-(2*y^(k+1)),⟨by grind,by grind⟩,?_⟩;rcases hm with h'|h'
   ·right;rw[h'];grind
   ·left;rw[h'];grind
  ·refine⟨2*y^(k+1),⟨by grind,by grind⟩,?_⟩;rcases hm with h'|h'
   ·left;rw[h'];grind
   ·right;rw[h'];grind
 obtain⟨c1,c2⟩:=ln_both (k+1) y K m hab hK hm hm0;rw[show k+1+1=k+2 from rfl]at h2;generalize ((2^b:Nat):Rat)=G at*;have hKG:K*m*G≤4:=by
  obtain⟨a,c⟩:=h2;rcases hKm with h|h<;>rw[h]<;>grind
 rw[←hy];obtain⟨a1,a2⟩:=h1;constructor
 ·refine c1.mono (le_div hB (by grind)) (div_le hB (by grind))
 ·refine c2.mono (le_div hB (by grind)) ?_;have hp:0<1+y:=by have:=hab.1;grind
  have hp2:0<y*G+G:=by
   have:=Rat.mul_pos hp hB
   grind
  refine div_le hp2 ?_;rw[show 1/(1+y)*(y*G+G)=G by grind];exact Rat.le_refl
theorem lnp_end(z:Int)(b:Nat)(hz:2*z.natAbs≤2^b): ∃n,n≤b+2∧lnp z b (n+1)=0∧∀k,k<n→lnp z b (k+1)≠0:=by
 have hG:0<2^b:=pow2_pos b;have step: ∀k,(0≤lnp z b k*z→0≤lnp z b (k+1)∧2*lnp z b (k+1)≤((lnp z b k).natAbs:Int))∧(lnp z b k*z<0→lnp z b (k+1)<0∧ -(((lnp z b k).natAbs:Int)+1)≤2*lnp z b (k+1)):=fun k=>by
  simp only[lnp];have h1:=Int.mul_ediv_add_emod (lnp z b k*z) ((2^b:Nat):Int);have h2:=Int.emod_nonneg (lnp z b k*z) (show((2^b:Nat):Int)≠0 by omega);have h3:=Int.emod_lt_of_pos (lnp z b k*z) (show(0:Int)<((2^b:Nat):Int) by omega);generalize lnp z b k*z/((2^b:Nat):Int)=f at*;have h4:(lnp z b k*z).natAbs*2≤(lnp z b k).natAbs*2^b:=by
   rw[Int.natAbs_mul,Nat.mul_assoc,Nat.mul_comm z.natAbs 2];exact Nat.mul_le_mul_left _ hz
  generalize lnp z b k*z%((2^b:Nat):Int)=m at*;generalize lnp z b k*z=p at*;generalize (lnp z b k).natAbs=A at*;generalize (2^b:Nat)=G at*;have hG0:(0:Int)<(G:Int):=by omega
  have h4':((p.natAbs*2:Nat):Int)≤(A:Int)*(G:Int):=by exact_mod_cast h4
  have e:(G:Int)*f=f*(G:Int):=Int.mul_comm _ _;constructor
  ·intro hp;constructor
   ·have:(0:Int)<(f+1)*(G:Int):=by rw[Int.add_mul];omega
    have:=Int.pos_of_mul_pos_left this hG0;omega
   ·have:2*f*(G:Int)≤(A:Int)*(G:Int):=by rw[Int.mul_assoc];omega
    exact Int.le_of_mul_le_mul_right this hG0
  ·intro hp;constructor
   ·have:f*(G:Int)<0*(G:Int):=by omega
    exact Int.lt_of_mul_lt_mul_right this (by omega)
   ·have: -((A:Int)+2)*(G:Int)<2*f*(G:Int):=by rw[Int.neg_mul,Int.add_mul,Int.mul_assoc];omega
    have:=Int.lt_of_mul_lt_mul_right this (by omega);omega
 have sgn: ∀k,0≤z→0≤lnp z b k:=fun k hz0=>by
  induction k with
  |zero=>exact hz0
  |succ k ih=>exact((step k).1 (Int.mul_nonneg ih hz0)).1
 have small: ∀k,(((lnp z b k).natAbs:Int)-1)*((2^k:Nat):Int)≤((2^b:Nat):Int)-1:=fun k=>by
  induction k with
  |zero=>simp only[lnp];omega
  |succ k ih=>
   have h1:2*(((lnp z b (k+1)).natAbs:Int)-1)≤((lnp z b k).natAbs:Int)-1:=by
    rcases Int.lt_or_le (lnp z b k*z) 0 with h|h
    ·have:=(step k).2 h;omega
    ·have:=(step k).1 h;omega
   have h2:=Int.mul_le_mul_of_nonneg_right h1 (show(0:Int)≤((2^k:Nat):Int)from Int.natCast_nonneg _);have e:((2^(k+1):Nat):Int)=((2^k:Nat):Int)*2:=by rw[Nat.pow_succ,Int.natCast_mul];rfl
   have e2:(((lnp z b (k+1)).natAbs:Int)-1)*(((2^k:Nat):Int)*2)=2*(((lnp z b (k+1)).natAbs:Int)-1)*((2^k:Nat):Int):=by
    rw[Int.mul_comm (2:Int),Int.mul_assoc,Int.mul_comm ((2^k:Nat):Int) 2]
   rw[e,e2];omega
 have one:(lnp z b b).natAbs≤1:=by
  have h:=small b;rcases Nat.lt_or_ge 1 (lnp z b b).natAbs with h1|h1
  ·exfalso
   have:=Int.mul_le_mul_of_nonneg_right (show(1:Int)≤((lnp z b b).natAbs:Int)-1 by omega) (show(0:Int)≤((2^b:Nat):Int)from Int.natCast_nonneg _);omega
  ·exact h1
 have zero: ∀k,lnp z b k=0→lnp z b (k+1)=0:=fun k h=>by simp only[lnp,h,Int.zero_mul,Int.zero_ediv]
 have hend:lnp z b (b+2+1)=0:=by
  rcases Int.lt_or_le z 0 with hz0|hz0
  ·rcases Int.lt_trichotomy (lnp z b b) 0 with h|h|h
   ·have:=(step b).1 (Int.le_of_lt (Int.mul_pos_of_neg_of_neg h hz0));exact zero _ (zero _ (by omega))
   ·exact zero _ (zero _ (zero _ h))
   ·have h1:=(step b).2 (Int.mul_neg_of_pos_of_neg h hz0);have:=(step (b+1)).1 (Int.le_of_lt (Int.mul_pos_of_neg_of_neg h1.1 hz0));have e:lnp z b (b+1+1)=0:=by omega
    exact zero _ e
  ·have h1:=sgn b hz0;have:=(step b).1 (Int.mul_nonneg h1 hz0);exact zero _ (zero _ (by omega))
 exact least (fun n=>lnp z b (n+1)=0) (b+2) hend
theorem ub_23:UB (-(11/30)) (2/3):=fun e he=>⟨[40/49,49/60],Pos.cons (by grind) (Pos.cons (by grind) (fun x hx=>by cases hx)),by simp only[prod];grind,by simp only[sm];grind⟩
theorem z_small(B m a E W d:Rat)(hB:1024≤B)(hm:B≤m)(hm2:m<2*B)(hE0:0≤E)(h1:UB (-a+d) (E/B))(h2:UB (a+d) (B/(E+1)))
 (l1:UB (a+9/25) (m/B)) (l2:UB (-a+9/25) (B/m)) (hd:d≤1/1024) (w1:W*B≤E*m) (w2:E*m<W*B+B):Ab (W-B) (1/2*B):=by
 have hB0:0<B:=by grind
 have hm0:0<m:=by grind
 constructor
 ·rcases rlt (W-B) (-(1/2*B))with h|h
  ·exfalso
   have h3:=h2.add l2 (Rat.le_of_lt (div_pos hB0 (by grind))) (Rat.le_of_lt (div_pos hB0 hm0));have h5:(E+1)*m<W*B+3*B:=by grind
   have h6:W*B≤1/2*B*B:=Rat.mul_le_mul_of_nonneg_right (by grind) (by grind);have h7:1024*B≤B*B:=Rat.mul_le_mul_of_nonneg_right hB (by grind);have hEm:0<(E+1)*m:=Rat.mul_pos (by grind) hm0;have e:B/(E+1)*(B/m)=B*B/((E+1)*m):=by
    have:0<E+1:=by grind
    grind
   have h4:3/2≤B/(E+1)*(B/m):=by
    rw[e];exact le_div hEm (by grind)
   have:=h3.fits ub_23 (by grind) (by grind) (by grind)
   grind
  ·exact h
 ·rcases rlt (1/2*B) (W-B)with h|h
  ·exfalso
   have h3:=h1.add l1 (le_div hB0 (by grind)) (Rat.le_of_lt (div_pos hm0 hB0));have e:E/B*(m/B)=E*m/(B*B):=by grind
   have h6:3/2*B*B≤W*B:=Rat.mul_le_mul_of_nonneg_right (by grind) (by grind);have h4:3/2≤E/B*(m/B):=by
    rw[e];exact le_div (Rat.mul_pos hB0 hB0) (by grind)
   have:=h3.fits ub_23 (by grind) (by grind) (by grind)
   grind
  ·exact h
theorem ln_join(B m a E W s k:Rat)(hB:1024≤B)(hm:B≤m)(hm2:m<2*B)(hE0:0≤E)(hz:Ab (W-B) (1/2*B))(h1:UB (-(a/B)+1/4/B) (E/B))(h2:UB (a/B+1/4/B) (B/(E+1)))
 (w1:W*B≤E*m) (w2:E*m<W*B+B) (s1:UB ((s+2*k+4)/B) (W/B)) (s2:UB ((-s+2*k+4)/B) (B/W)):
 UB ((s+a+2*k+11)/B) (m/B)∧UB ((-(s+a)+2*k+5)/B) (B/m):=by
 have hB0:0<B:=by grind
 have hm0:0<m:=by grind
 obtain⟨z1,z2⟩:=hz;have hW:0<W:=by grind
 have hE1:0<E+1:=by grind
 constructor
 ·have h3:=(h2.add s1 (Rat.le_of_lt (div_pos hB0 hE1)) (Rat.le_of_lt (div_pos hW hB0))).add (UB.one (show 0<(W+3)/W from div_pos (by grind) hW)) (Rat.mul_nonneg (Rat.le_of_lt (div_pos hB0 hE1)) (Rat.le_of_lt (div_pos hW hB0))) (Rat.le_of_lt (div_pos (by grind) hW));refine h3.mono ?_ ?_
  ·have h4:(W+3)/W≤1+6/B:=by
    refine div_le hW ?_;have e:6/B*B=6:=by grind
    have h5:0≤6/B:=Rat.le_of_lt (div_pos (by decide) hB0);generalize 6/B=c at*;have:0≤c*(W-1/2*B):=Rat.mul_nonneg h5 (by grind)
    grind
   have e:(s+a+2*k+11)/B=a/B+1/4/B+(s+2*k+4)/B+6/B+3/4/B:=by grind
   have:0<3/4/B:=div_pos (by grind) hB0;rw[e]
   grind
  ·rw[show B/(E+1)*(W/B)*((W+3)/W)=(W+3)/(E+1) by grind];refine le_div hE1 ?_;rw[show m/B*(E+1)=(E*m+m)/B by grind];exact div_le hB0 (by grind)
 ·have hWm:0<E*m:=by
   have:=Rat.mul_pos hW hB0
   grind
  have h3:=h1.add s2 (le_div hB0 (by grind)) (Rat.le_of_lt (div_pos hB0 hW));refine h3.mono ?_ ?_
  ·have e:(-(s+a)+2*k+5)/B= -(a/B)+1/4/B+(-s+2*k+4)/B+3/4/B:=by grind
   have:0<3/4/B:=div_pos (by grind) hB0;rw[e]
   grind
  ·rw[show E/B*(B/W)=E/W by grind];refine le_div hW ?_;rw[show B/m*W=W*B/m by grind];exact div_le hm0 (by grind)
end Go.Proofs.YthlakefgobflnaaGreatDoor.An
namespace Go.Proofs.YthlakefgobflnaaGreatDoor.An
set_option linter.unusedVariables false
def dpow(P p q:Nat):Nat→Nat
 |0=>P*p/q
 |n+1=>dpow P p q n*(p*p)/(q*q)
def dsum(P p q:Nat):Nat→Nat
 |0=>0
 |n+1=>dsum P p q n+dpow P p q n/(2*n+1)
theorem nfl(a d:Nat)(hd:0<d):(d:Rat)*((a/d:Nat):Rat)≤(a:Rat)∧(a:Rat)<(d:Rat)*((a/d:Nat):Rat)+(d:Rat):=by
 have h1:=Nat.div_add_mod a d;have h3:=Nat.mod_lt a hd;have e:(d:Rat)*((a/d:Nat):Rat)+((a%d:Nat):Rat)=(a:Rat):=by exact_mod_cast h1
 have e2:(0:Rat)≤((a%d:Nat):Rat):=by exact_mod_cast Nat.zero_le _
 have e3:((a%d:Nat):Rat)<(d:Rat):=by exact_mod_cast h3
 constructor<;>grind
theorem between{f v G:Rat}(hG:0<G)(h1:G*f≤v*G)(h2:v*G<G*f+G):f≤v∧v≤f+1:=by
 constructor
 ·rcases rlt v f with h|h
  ·have:=Rat.mul_lt_mul_of_pos_right h hG
   grind
  ·exact h
 ·rcases rlt (f+1) v with h|h
  ·have:=Rat.mul_lt_mul_of_pos_right h hG
   grind
  ·exact h
theorem dpow_near(P p q:Nat)(u:Rat)(hq:0<q)(hu:u*(q:Rat)=(p:Rat))(hu0:0≤u)(hu3:u≤1/3)(n:Nat):
 (dpow P p q n:Rat)≤(P:Rat)*u^(2*n+1)∧(P:Rat)*u^(2*n+1)≤(dpow P p q n:Rat)+9/8:=by
 have hqr:=npos hq;induction n with
 |zero=>
  have h:=nfl (P*p) q hq;rw[Rat.natCast_mul,←hu]at h;simp only[dpow];rw[show u^(2*0+1)=u by rw[Rat.pow_succ,Rat.pow_zero];grind];generalize ((P*p/q:Nat):Rat)=f at*;have:=between (f:=f) (v:=(P:Rat)*u) hqr (by grind) (by grind)
  grind
 |succ n ih=>
  have hqq:0<q*q:=Nat.mul_pos hq hq;have h:=nfl (dpow P p q n*(p*p)) (q*q) hqq;rw[Rat.natCast_mul,Rat.natCast_mul,Rat.natCast_mul,←hu]at h;have hG:0<(q:Rat)*(q:Rat):=Rat.mul_pos hqr hqr;simp only[dpow];generalize ((dpow P p q n*(p*p)/(q*q):Nat):Rat)=f at*;rw[show u^(2*(n+1)+1)=u^(2*n+1)*u*u by rw[show 2*(n+1)+1=2*n+1+1+1 by omega,Rat.pow_succ,Rat.pow_succ]];generalize (dpow P p q n:Rat)=d at*;generalize u^(2*n+1)=w at*;generalize (q:Rat)=Q at*;have h2:=between (f:=f) (v:=d*(u*u)) hG (by grind) (by grind);have huu:0≤u*u:=sq_nonneg u;have huu9:u*u≤1/9:=by
   have:=mul_mono hu0 hu0 hu3 hu3
   grind
  obtain⟨i1,i2⟩:=ih;have j1:d*(u*u)≤P*w*(u*u):=Rat.mul_le_mul_of_nonneg_right i1 huu;have j2:P*w*(u*u)≤(d+9/8)*(u*u):=Rat.mul_le_mul_of_nonneg_right i2 huu;constructor<;>grind
theorem dsum_near(P p q:Nat)(u:Rat)(hq:0<q)(hu:u*(q:Rat)=(p:Rat))(hu0:0≤u)(hu3:u≤1/3)(n:Nat):
 2*(dsum P p q n:Rat)≤(P:Rat)*A n u∧(P:Rat)*A n u≤2*(dsum P p q n:Rat)+17/4*(n:Rat):=by
 induction n with
 |zero=>
  have e:A 0 u=0:=rfl;have e0:((0:Nat):Rat)=0:=rfl;simp only[dsum];rw[e,e0];constructor<;>grind
 |succ n ih=>
  have h:=dpow_near P p q u hq hu hu0 hu3 n;have h2:=nfl (dpow P p q n) (2*n+1) (by omega);have e:A (n+1) u=A n u+ac n*u^(2*n+1):=by
   unfold A;rw[ev,ae]
  have hac:=ac_mul n;have hc1:(1:Rat)≤((2*n+1:Nat):Rat):=by exact_mod_cast (show 1≤2*n+1 by omega)
  simp only[dsum];rw[e,cast_succ,Rat.natCast_add];generalize ((dpow P p q n/(2*n+1):Nat):Rat)=f at*;generalize ((2*n+1:Nat):Rat)=c at*;generalize (dpow P p q n:Rat)=d at*;generalize u^(2*n+1)=w at*;have hcp:0<c:=by grind
  obtain⟨a1,a2⟩:=h;obtain⟨b1,b2⟩:=h2;obtain⟨i1,i2⟩:=ih;have hic:1/c≤1:=div_le hcp (by grind);have hic0:0<1/c:=div_pos (by decide) hcp;have hace:ac n=2*(1/c):=by grind
  have hdc:d*(1/c)*c=d:=by clear i1 i2 a1 a2 b1 b2 hace;grind
  have h3:=between (f:=f) (v:=d*(1/c)) hcp (by rw[hdc];exact b1) (by rw[hdc];exact b2);have h4:d*(1/c)≤P*w*(1/c):=Rat.mul_le_mul_of_nonneg_right a1 (Rat.le_of_lt hic0);have h5:P*w*(1/c)≤(d+9/8)*(1/c):=Rat.mul_le_mul_of_nonneg_right a2 (Rat.le_of_lt hic0);rw[hace];constructor<;>grind
theorem dbl_cert(P p q n:Nat)(hP:0<P)(hq:0<q)(h3:3*p≤q)(h0:dpow P p q n=0):
 UB ((2*(dsum P p q n:Rat)+5*(n:Rat)+10)/(P:Rat)) (((q:Rat)+(p:Rat))/((q:Rat)-(p:Rat)))∧
 UB (-(2*(dsum P p q n:Rat))/(P:Rat)) (((q:Rat)-(p:Rat))/((q:Rat)+(p:Rat))):=by
 have hqr:=npos hq;have hPr:=npos hP;have hp0:(0:Rat)≤(p:Rat):=by exact_mod_cast Nat.zero_le p
 have h3r:3*(p:Rat)≤(q:Rat):=by exact_mod_cast h3
 have hn0:(0:Rat)≤(n:Rat):=by exact_mod_cast Nat.zero_le n
 obtain⟨u,hu,hu0,hu3⟩: ∃u:Rat,u*(q:Rat)=(p:Rat)∧0≤u∧u≤1/3:=⟨(p:Rat)/(q:Rat),by grind,le_div hqr (by grind),div_le hqr (by grind)⟩
 have h1:=dpow_near P p q u hq hu hu0 hu3 n;have h2:=dsum_near P p q u hq hu hu0 hu3 n;rw[h0]at h1;have e0:((0:Nat):Rat)=0:=rfl;rw[e0]at h1;obtain⟨c1,c2⟩:=at_both n u (9/4*(u*u)^n) hu0 hu3 Rat.le_refl;have e1:(q:Rat)+(p:Rat)=(1+u)*(q:Rat):=by grind
 have e2:(q:Rat)-(p:Rat)=(1-u)*(q:Rat):=by grind
 have e3:u^(2*n+1)=(u*u)^n*u:=by rw[Rat.pow_succ,pow_even]
 rw[e3]at h1;have d1:0<1-u:=by grind
 have d2:0<1+u:=by grind
 rw[e1,e2];generalize (q:Rat)=Q at*;rw[show(1+u)*Q/((1-u)*Q)=(1+u)/(1-u) by grind,show(1-u)*Q/((1+u)*Q)=(1-u)/(1+u) by grind];exact⟨c1.mono (le_div hPr (by grind)) Rat.le_refl,c2.mono (le_div hPr (by grind)) Rat.le_refl⟩
theorem dpow_bound(P p q:Nat)(hq:0<q)(h3:3*p≤q)(n:Nat):dpow P p q n*9^n≤P:=by
 induction n with
 |zero=>
  simp only[dpow];rw[Nat.pow_zero,Nat.mul_one];exact Nat.div_le_of_le_mul (Nat.mul_comm q P▸Nat.mul_le_mul_left P (by omega))
 |succ n ih=>
  simp only[dpow];have h1:dpow P p q n*(p*p)/(q*q)*9≤dpow P p q n:=by
   have hqq:0<q*q:=Nat.mul_pos hq hq;have h2:=Nat.div_mul_le_self (dpow P p q n*(p*p)) (q*q);have h4:3*p*(3*p)≤q*q:=Nat.mul_le_mul h3 h3;have h5:dpow P p q n*(3*p*(3*p))≤dpow P p q n*(q*q):=Nat.mul_le_mul_left _ h4;have e:dpow P p q n*(3*p*(3*p))=dpow P p q n*(p*p)*9:=by grind
   generalize dpow P p q n*(p*p)=t at*;generalize hf:t/(q*q)=f at*;refine Nat.le_of_mul_le_mul_right ?_ hqq;have e2:f*9*(q*q)=f*(q*q)*9:=by ac_rfl
   omega
  calc _=dpow P p q n*(p*p)/(q*q)*9*9^n:=by rw[Nat.pow_succ];ac_rfl
   _≤dpow P p q n*9^n:=Nat.mul_le_mul_right _ h1
   _≤P:=ih
end Go.Proofs.YthlakefgobflnaaGreatDoor.An
namespace Go.Proofs.YthlakefgobflnaaGreatDoor.R
open Go.Proofs.YthlakefgobflnaaGreatDoor.G Go.RowKit Go.Proofs.YthlakefgobflnaaGreatDoorW.PrintWords Go.Proofs.YthlakefgobflnaaGreatDoorW.PrintLast Go.Proofs.YthlakefgobflnaaGreatDoorW.PrintMore Go.Proofs.YthlakefgobflnaaGreatDoor.S
set_option linter.unusedVariables false
set_option linter.unusedSimpArgs false
theorem len_le_of{a b k:Nat}(h:a≤b)(hb:len b≤k):len a≤k:=Nat.le_trans (Lm.len_mono h) hb
theorem dsum_le(P p q:Nat)(hq:0<q)(h3:3*p≤q)(n:Nat):An.dsum P p q n≤n*P:=by
 induction n with
 |zero=>simp[An.dsum]
 |succ n ih=>
  simp only[An.dsum];have h1:An.dpow P p q n≤P:=Nat.le_trans (Nat.le_mul_of_pos_right _ (Nat.pow_pos (by omega))) (An.dpow_bound P p q hq h3 n);have h2:=Nat.div_le_self (An.dpow P p q n) (2*n+1);rw[Nat.add_mul,Nat.one_mul];omega
theorem dpow_le(P p q:Nat)(hq:0<q)(h3:3*p≤q)(n:Nat):An.dpow P p q n≤P:=Nat.le_trans (Nat.le_mul_of_pos_right _ (Nat.pow_pos (by omega))) (An.dpow_bound P p q hq h3 n)
theorem wholeAddNat_is(a b:Nat)(u v:Value)(w:World)(hu:Nv w u a)(hv:Nv w v b)(hl:len a≤1000)(hm:len b≤1000):
 Calls Tryz.prog 23 #[.agg #[.bool false,u],.agg #[.bool false,v]] w fun e w'=>∃r,e= .returned (.agg #[.bool false,r])∧Nv w' r (a+b)∧Below w.heap.size w w':=by
 have h:=wholeAdd_is (a:Int) (b:Int) u v w hu hv hl hm;rw[decide_eq_false (show¬((a:Int)<0) by omega),decide_eq_false (show¬((b:Int)<0) by omega),decide_eq_false (show¬((a:Int)+(b:Int)<0) by omega)]at h;exact h
structure Db (w w':World) (P p q:Nat) (x y vp vs:Value) (k:Nat):Prop where
 b:w'.heap[w.heap.size]?=some (.cells #[.bool false,.slice none 0 0,.bool false,.slice none 0 0] 69 (0,0))
 bl:Below w.heap.size w w'
 x:Nv w' x (p*p)
 y:Nv w' y (q*q)
 pw:Nv w' vp (An.dpow P p q k)
 su:Nv w' vs (An.dsum P p q k)
set_option maxRecDepth 100000 in
set_option maxHeartbeats 2000000 in
theorem doubled_is(p q pl N:Nat)(u v:Value)(w:World)(hu:Nv w u p)(hv:Nv w v q)(hq:0<q)(h3:3*p≤q)(hpl:pl≤300)(hl:len q≤100)(hN:N≤1000)(h0:An.dpow (10^pl) p q N=0)(h1: ∀k,k<N→An.dpow (10^pl) p q k≠0):
 Calls Tryz.prog 45 #[u,v,.int .i64 (pl:Int)] w fun e w'=>∃r s,e= .returned (.agg #[.bool false,r,.bool false,s])∧Nv w' r (2*An.dsum (10^pl) p q N)∧Nv w' s (2*An.dsum (10^pl) p q N+(5*N+10))∧Below w.heap.size w w':=by
 have NU:=ak hu;have NV:=ak hv;have HL:=ak (And.intro hq (And.intro h3 (And.intro hpl (And.intro hl hN))));have HE:=ak (And.intro h0 h1);have HP:=ak (show len p≤100 from len_le_of (by omega) hl);have HTen:=ak (Nat.le_trans (len_pow10 pl) (show pl+1≤301 by omega));have HPow:=ak (fun k=>len_le_of (dpow_le (10^pl) p q hq h3 k) HTen.out);have HSum:=ak (fun k (hk:k≤1000)=>show len (An.dsum (10^pl) p q k)≤303 from len_le_of (b:=1000*10^pl) (Nat.le_trans (dsum_le (10^pl) p q hq h3 k) (Nat.mul_le_mul_right _ hk)) (Nat.le_trans (Lm.len_mul _ _) (by have h1:(Lm.lim 1000).length≤1:=Lm.len_le (by omega);have:=HTen.out;unfold len at this;omega)));have HMul:=ak (fun a b=>Lm.len_mul a b);clear hu hv hq h3 hpl hl hN h0 h1
 go_enter Tryz.func45,Tryz.ntmps45
 go_wp2_with fail
 generalize hW:w.alloc _=W;obtain⟨k0,k1,-⟩:=alloc1 hW;have B0:=ak k0;have HB:=ak k1;have q:=NU.out.below HB.out;clear NU;have NU:=ak q;clear q;have q:=NV.out.below HB.out;clear NV;have NV:=ak q;clear q;clear hW k0 k1;refine(natMul_is p p _ _ _ NU.out NU.out (by have:=HP.out;omega)).mono ?_;rintro e w9 ⟨x,rfl,hx,hb⟩;have k0:=blk_below B0.out hb;have k1:=below_step HB.out hb;have k2:=NU.out.below hb;have k3:=NV.out.below hb;clear B0 HB NU NV;have B0:=ak k0;have HB:=ak k1;have NU:=ak k2;have NV:=ak k3;clear k0 k1 k2 k3;have NX:=ak hx;clear hb hx
 go_wp2_with fail
 refine(natMul_is q q _ _ _ NV.out NV.out (by have:=HL.out;omega)).mono ?_;rintro e w9 ⟨y,rfl,hy,hb⟩;have k0:=blk_below B0.out hb;have k1:=below_step HB.out hb;have k2:=NU.out.below hb;have k3:=NV.out.below hb;have k4:=NX.out.below hb;clear B0 HB NU NV NX;have B0:=ak k0;have HB:=ak k1;have NU:=ak k2;have NV:=ak k3;have NX:=ak k4;clear k0 k1 k2 k3 k4;have NY:=ak hy;clear hb hy
 go_wp2_with fail
 refine(pow10_is pl _ (by have:=HL.out;omega)).mono ?_;rintro e w9 ⟨t0,rfl,ht,hb⟩;have k0:=blk_below B0.out hb;have k1:=below_step HB.out hb;have k2:=NU.out.below hb;have k3:=NV.out.below hb;have k4:=NX.out.below hb;have k5:=NY.out.below hb;clear B0 HB NU NV NX NY;have B0:=ak k0;have HB:=ak k1;have NU:=ak k2;have NV:=ak k3;have NX:=ak k4;have NY:=ak k5;clear k0 k1 k2 k3 k4 k5;have NT:=ak ht;clear hb ht
 go_wp2_with fail
 generalize hPg:10^pl=P at*;have HPg:=ak hPg;clear hPg;refine(natMul_is P p _ _ _ NT.out NU.out (by have:=HTen.out;have:=HP.out;omega)).mono ?_;rintro e w9 ⟨t1,rfl,ht,hb⟩;have k0:=blk_below B0.out hb;have k1:=below_step HB.out hb;have k2:=NV.out.below hb;have k3:=NX.out.below hb;have k4:=NY.out.below hb;clear B0 HB NV NX NY;have B0:=ak k0;have HB:=ak k1;have NV:=ak k2;have NX:=ak k3;have NY:=ak k4;clear k0 k1 k2 k3 k4;have NT1:=ak ht;clear hb ht;clear NT NU
 go_wp2_with fail
 refine(natDiv_is (P*p) q _ _ _ NT1.out NV.out HL.out.1 (by have:=HTen.out;have:=HP.out;have:=HL.out;have:=HMul.out P p;unfold len at*;omega)).mono ?_;rintro e w9 ⟨vp,vr,rfl,hp,-,hb⟩;have k0:=blk_below B0.out hb;have k1:=below_step HB.out hb;have k2:=NX.out.below hb;have k3:=NY.out.below hb;clear B0 HB NX NY;have B0:=ak k0;have HB:=ak k1;have NX:=ak k2;have NY:=ak k3;clear k0 k1 k2 k3;have NP:=ak hp;clear hb hp;clear NT1 NV
 go_wp2_with fail
 have HD:=ak (show Db w w9 P p q x y vp (.slice none 0 0) 0 from⟨B0.out,HB.out,NX.out,NY.out,NP.out,Nv.nil _⟩);clear B0 HB NX NY NP
 go_loopg [9,11,12] N (fun kq v9 v11 v12 w'=>∃(k:Nat),v12= .int .i64 (k:Int)∧Aside0 (k+kq=N)∧Aside0 (Db w w' P p q x y v9 v11 k))
 case atStart=>exact⟨0,rfl,ak (by omega),HD⟩
 case round=>
  obtain⟨k,rfl,hk,HD2⟩:=hrel;clear HD;obtain⟨A1,c1,rfl,-⟩:=id HD2.out.pw;cases gk with
  |zero=>
   have e:k=N:=hk.out;subst e;clear hk;have hd:decide (0<len (An.dpow P p q k))=false:=by rw[HE.out.1];unfold len;rw[Lm.lim_zero];rfl
   go_wp2_with fail
   clear hd;have HB:=ak HD2.out.bl;have B0:=ak HD2.out.b;refine(natAdd_is (An.dsum P p q k) (An.dsum P p q k) _ _ _ HD2.out.su HD2.out.su (Nat.le_trans (len_add _ _ 303 (HSum.out k HL.out.2.2.2.2) (HSum.out k HL.out.2.2.2.2)) (by omega))).mono ?_;rintro e w9 ⟨y2,rfl,hy,hb⟩;clear HD2;have k0:=blk_below B0.out hb;have k1:=below_step HB.out hb;clear B0 HB;have B0:=ak k0;have HB:=ak k1;clear k0 k1;have NL:=ak (show Nv _ y2 (2*An.dsum P p q k) by rw[Nat.two_mul];exact hy);obtain⟨A2,c2,rfl,-⟩:=id hy;clear hy hb;have HLl:=ak (show len (2*An.dsum P p q k)≤304 by rw[Nat.two_mul];exact len_add _ _ 303 (HSum.out k HL.out.2.2.2.2) (HSum.out k HL.out.2.2.2.2))
   go_wp2_with fail
   generalize hW2:World.alloc _ _=W2;obtain⟨m0,m1,-⟩:=alloc1 hW2;obtain⟨g,hg⟩: ∃g,w9.heap.size=g:=⟨_,rfl⟩
   have B1:=ak m0;have k0:=blk_below B0.out m1;have k1:=below_step HB.out m1;have k2:=NL.out.below m1;clear B0 HB NL;have B0:=ak k0;have HB:=ak k1;have NL:=ak k2;clear k0 k1 k2;rw[hg]at B1⊢;clear m0 m1 hg hW2;have hw5:wrap64 (wrap64 (5*(k:Int))+10)=((5*k+10:Nat):Int):=by rw[Lm.w64 (i:=5*(k:Int)) (by omega) (by have:=HL.out;omega),Lm.w64 (by omega) (by have:=HL.out;omega)];rfl
   have HQ:=ak (fun w0=>wholeFrom_is (5*k+10) w0 (by have:=HL.out;omega));rw[←hw5]at HQ;clear hw5;have NL2:=ak (show Nv _ (.slice A2 (len (An.dsum P p q k+An.dsum P p q k)) c2) (2*An.dsum P p q k)from NL.out);refine sta (fun w'=>C2 w' g (.bool false) (.slice A2 (len (An.dsum P p q k+An.dsum P p q k)) c2)) [8] (by exact C2.of B1.out) (fun hHeld=>?_);repeat(first|refine pu 0 ?_|refine tk 0 hHeld ?_|refine pu 1 ?_|refine tk 1 hHeld ?_|refine pu 2 ?_|refine tk 2 hHeld ?_|refine pu 3 ?_|refine tk 3 hHeld ?_)
   clear NL2;refine cl Tryz.func71 #[.int .i64 (wrap64 (wrap64 (5*(k:Int))+10))] ?_
   clear hHeld;have k0:=blk_below B0.out (below_drew (Below.refl _ _));have k1:=blk_below B1.out (below_drew (Below.refl _ _));have k2:=below_step HB.out (below_drew (Below.refl _ _));have k3:=NL.out.below (below_drew (Below.refl _ _));clear B0 B1 HB NL;have B0:=ak k0;have B1:=ak k1;have HB:=ak k2;have NL:=ak k3;clear k0 k1 k2 k3;refine(HQ.out _).mono ?_;rintro e w9 ⟨y3,rfl,hy,hb⟩;have k0:=blk_below B0.out hb;have k1:=blk_below B1.out hb;have k2:=below_step HB.out hb;have k3:=NL.out.below hb;clear B0 B1 HB NL;have B0:=ak k0;have B1:=ak k1;have HB:=ak k2;have NL:=ak k3;clear k0 k1 k2 k3;have N5:=ak hy;obtain⟨A3,c3,rfl,-⟩:=id hy;clear hy hb;refine⟨_,rfl,C2.of B1.out,fun hHeld=>?_⟩;repeat(first|refine pu 0 ?_|refine tk 0 hHeld ?_|refine pu 1 ?_|refine tk 1 hHeld ?_|refine pu 2 ?_|refine tk 2 hHeld ?_|refine pu 3 ?_|refine tk 3 hHeld ?_)
   refine cl Tryz.func23 #[.agg #[.bool false,.slice A2 (len (An.dsum P p q k+An.dsum P p q k)) c2],.agg #[.bool false,.slice A3 (len (5*k+10)) c3]] ?_
   clear hHeld;refine(wholeAddNat_is (2*An.dsum P p q k) (5*k+10) _ _ _ NL.out N5.out (Nat.le_trans HLl.out (by omega)) (Nat.le_trans (Lm.len_le (m:=1) (by have:=HL.out;omega)) (by omega))).mono ?_;rintro e w9 ⟨y4,rfl,hy,hb⟩;have k0:=blk_below B0.out hb;have k1:=blk_below B1.out hb;have k2:=below_step HB.out hb;have k3:=NL.out.below hb;clear B0 B1 HB NL;have B0:=ak k0;have B1:=ak k1;have HB:=ak k2;have NL:=ak k3;clear k0 k1 k2 k3;have N6:=ak hy;obtain⟨A4,c4,rfl,-⟩:=id hy;clear hy hb;refine⟨_,rfl,C2.of B1.out,fun hHeld=>?_⟩;repeat(first|refine pu 0 ?_|refine tk 0 hHeld ?_|refine pu 1 ?_|refine tk 1 hHeld ?_|refine pu 2 ?_|refine tk 2 hHeld ?_|refine pu 3 ?_|refine tk 3 hHeld ?_)
   obtain⟨f0,zf0,f1,zf1,f2,zf2,f3,zf3⟩:=rf4 B0.out;refine la (fun K hK=>?_);go_simp;refine hK.out _ _ ?_;clear hK K hHeld;refine done_ (by decide+kernel) ?_;obtain⟨q1,q2,q3⟩:=put4 B0.out HB.out (by omega) (Eq.refl _)
   go_wp2_with fail
   refine bodyPost_ret (results_cell_row rfl _ _ _ 69 _ (0,0) _ rfl q1 Tryz.underlying69 rfl (by kernel_rfl)) rfl ?_;exact⟨_,_,rfl,by rw[HPg.out];exact q3 _ _ NL.out,by rw[HPg.out];exact q3 _ _ N6.out,q2⟩
  |succ k1=>
   have hd:decide (0<len (An.dpow P p q k))=true:=decide_eq_true (by have:=HE.out.2 k (by have:=hk.out;omega);have:=Lm.len_zero (n:=An.dpow P p q k);unfold len;omega);have HK:=ak (show k≤1000 by have:=HL.out;have:=hk.out;omega)
   go_wp2_with fail
   clear hd;rw[show wrap64 (wrap64 (2*(k:Int))+1)%4294967296=((2*k+1:Nat):Int) by rw[Lm.w64 (i:=2*(k:Int)) (by omega) (by have:=HK.out;omega),Lm.w64 (by omega) (by have:=HK.out;omega)];have:=HK.out;omega];refine(natShort_is (An.dpow P p q k) (2*k+1) _ _ HD2.out.pw (by omega) (by have:=HK.out;omega) (Nat.le_trans (HPow.out k) (by omega))).mono ?_;rintro e w9 ⟨y1,rfl,hy,hb⟩;have HB:=ak (below_step HD2.out.bl hb);have B0:=ak (blk_below HD2.out.b hb);have NX:=ak (HD2.out.x.below hb);have NY:=ak (HD2.out.y.below hb);have NP:=ak (HD2.out.pw.below hb);have NS:=ak (HD2.out.su.below hb);have N1:=ak hy;clear hy hb HD2
   go_wp2_with fail
   refine(natAdd_is (An.dsum P p q k) (An.dpow P p q k/(2*k+1)) _ _ _ NS.out N1.out (Nat.le_trans (HSum.out (k+1) (by have:=HL.out;have:=hk.out;omega)) (by omega))).mono ?_;rintro e w9 ⟨y2,rfl,hy,hb⟩;clear NS N1;have k0:=blk_below B0.out hb;have k1:=below_step HB.out hb;have k2:=NX.out.below hb;have k3:=NY.out.below hb;have k4:=NP.out.below hb;clear B0 HB NX NY NP;have B0:=ak k0;have HB:=ak k1;have NX:=ak k2;have NY:=ak k3;have NP:=ak k4;clear k0 k1 k2 k3 k4;have NS2:=ak hy;clear hb hy
   go_wp2_with fail
   refine(natMul_is (An.dpow P p q k) (p*p) _ _ _ NP.out NX.out (by have:=HPow.out k;have:=HP.out;have:=HMul.out p p;unfold len at*;omega)).mono ?_;rintro e w9 ⟨y3,rfl,hy,hb⟩;clear NP;have k0:=blk_below B0.out hb;have k1:=below_step HB.out hb;have k2:=NX.out.below hb;have k3:=NY.out.below hb;have k4:=NS2.out.below hb;clear B0 HB NX NY NS2;have B0:=ak k0;have HB:=ak k1;have NX:=ak k2;have NY:=ak k3;have NS2:=ak k4;clear k0 k1 k2 k3 k4;have N3:=ak hy;clear hb hy
   go_wp2_with fail
   refine(natDiv_is (An.dpow P p q k*(p*p)) (q*q) _ _ _ N3.out NY.out (Nat.mul_pos HL.out.1 HL.out.1) (by have:=HPow.out k;have:=HP.out;have:=HL.out;have:=HMul.out p p;have:=HMul.out q q;have:=HMul.out (An.dpow P p q k) (p*p);unfold len at*;omega)).mono ?_;rintro e w9 ⟨y4,y5,rfl,hy,-,hb⟩;clear N3;have k0:=blk_below B0.out hb;have k1:=below_step HB.out hb;have k2:=NX.out.below hb;have k3:=NY.out.below hb;have k4:=NS2.out.below hb;clear B0 HB NX NY NS2;have B0:=ak k0;have HB:=ak k1;have NX:=ak k2;have NY:=ak k3;have NS2:=ak k4;clear k0 k1 k2 k3 k4;have NP2:=ak hy;clear hb hy;have hw:wrap64 ((k:Int)+1)=((k+1:Nat):Int):=by rw[Lm.w64 (by omega) (by have:=HK.out;omega)];rfl
   go_wp2_with fail
   go_roundg k1
   case measure=>omega
   case rel=>exact⟨k+1,congrArg (Value.int IntKind.i64) hw,⟨by have:=hk.out;omega⟩,⟨B0.out,HB.out,NX.out,NY.out,NP2.out,NS2.out⟩⟩
end Go.Proofs.YthlakefgobflnaaGreatDoor.R
