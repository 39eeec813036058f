/- THE PROGRAM's EXPONENTIAL in whole numbers, against the certificates. -/
import Derived.Test.YthlakefgobflnaaGreatDoorBal
namespace Go.Proofs.YthlakefgobflnaaGreatDoor.An
set_option linter.unusedVariables false
theorem fl_le(a:Int)(d:Nat)(hd:0<d):(d:Rat)*((a/(d:Int):Int):Rat)≤(a:Rat)∧(a:Rat)<(d:Rat)*((a/(d:Int):Int):Rat)+(d:Rat):=by
 have h1:=Int.mul_ediv_add_emod a (d:Int);have h2:=Int.emod_nonneg a (show(d:Int)≠0 by omega);have h3:=Int.emod_lt_of_pos a (show(0:Int)<(d:Int) by omega);have e:(d:Rat)*((a/(d:Int):Int):Rat)+((a%(d:Int):Int):Rat)=(a:Rat):=by exact_mod_cast h1
 have e2:(0:Rat)≤((a%(d:Int):Int):Rat):=by exact_mod_cast h2
 have e3:((a%(d:Int):Int):Rat)<(d:Rat):=by exact_mod_cast h3
 constructor<;>grind
theorem td_ab(a:Int)(d:Nat)(hd:0<d):Ab ((d:Rat)*((Int.tdiv a (d:Int):Int):Rat)-(a:Rat)) (d:Rat):=by
 have h1:=Int.mul_tdiv_add_tmod a (d:Int);have h2: -(d:Int)<Int.tmod a d∧Int.tmod a d<d:=by
  rcases Int.le_total 0 a with h|h
  ·have:=Int.tmod_nonneg (d:Int) h;have:=Int.tmod_lt_of_pos a (show(0:Int)<(d:Int) by omega);omega
  ·obtain⟨c,rfl⟩: ∃c:Int,a= -c:=⟨-a,by omega⟩
   have:=Int.tmod_nonneg (d:Int) (show 0≤c by omega);have:=Int.tmod_lt_of_pos c (show(0:Int)<(d:Int) by omega);rw[Int.neg_tmod];omega
 have e:(d:Rat)*((Int.tdiv a (d:Int):Int):Rat)+((Int.tmod a (d:Int):Int):Rat)=(a:Rat):=by exact_mod_cast h1
 have e2:=Rat.intCast_lt_intCast.2 h2.1;rw[Rat.intCast_neg,Rat.intCast_natCast]at e2;have e3:((Int.tmod a (d:Int):Int):Rat)<(d:Rat):=by exact_mod_cast h2.2
 constructor<;>grind
theorem pow2_pos(g:Nat):0<2^g:=Nat.pow_pos (by omega)
theorem npos{n:Nat}(h:0<n):(0:Rat)<(n:Rat):=by exact_mod_cast h
def ext(xr:Int)(g:Nat):Nat→Int
 |0=>((2^g:Nat):Int)
 |k+1=>Int.tdiv (ext xr g k*xr/((2^g:Nat):Int)) ((k+1:Nat):Int)
def exs(xr:Int)(g:Nat):Nat→Int
 |0=>((2^g:Nat):Int)
 |k+1=>exs xr g k+ext xr g (k+1)
theorem ext_near(xr:Int)(g:Nat)(Y:Rat)(hY:Y*((2^g:Nat):Rat)=(xr:Rat))(hy:Ab Y (1/16))(k:Nat):Ab ((ext xr g k:Rat)-ec k*Y^k*((2^g:Nat):Rat)) (9/4):=by
 have hG:=npos (pow2_pos g);induction k with
 |zero=>
  simp only[ext,ec,Rat.pow_zero];rw[Rat.intCast_natCast];constructor<;>grind
 |succ k ih=>
  have h1:=fl_le (ext xr g k*xr) (2^g) (pow2_pos g);have h2:=td_ab (ext xr g k*xr/((2^g:Nat):Int)) (k+1) (by omega);rw[Rat.intCast_mul,←hY]at h1;have hk:=natpos k;have hk1:(1:Rat)≤((k+1:Nat):Rat):=by exact_mod_cast (show 1≤k+1 by omega)
  have hec:=ec_mul k;simp only[ext];generalize ext xr g k*xr/((2^g:Nat):Int)=f at*;generalize Int.tdiv f ((k+1:Nat):Int)=q at*;generalize ((2^g:Nat):Rat)=G at*;generalize (ext xr g k:Rat)=t at*;generalize ((k+1:Nat):Rat)=c at*;have hf:Ab ((f:Rat)-t*Y) 1:=by
   obtain⟨a,b⟩:=h1;have a2:G*(f:Rat)≤G*(t*Y):=by grind
   have b2:G*(t*Y)<G*((f:Rat)+1):=by grind
   have a3:(f:Rat)≤t*Y:=by
    rcases rlt (t*Y) (f:Rat)with h|h
    ·have:=Rat.mul_lt_mul_of_pos_left h hG
     grind
    ·exact h
   have b3:t*Y≤(f:Rat)+1:=by
    rcases rlt ((f:Rat)+1) (t*Y)with h|h
    ·have:=Rat.mul_lt_mul_of_pos_left h hG
     grind
    ·exact h
   constructor<;>grind
  have hd:=ih.mul hy;have e1:ec (k+1)*Y^(k+1)*G=(ec k*Y^k*G)*Y*(1/c):=by
   rw[Rat.pow_succ,←hec]
   grind
  have h3:Ab (c*((q:Rat)-ec (k+1)*Y^(k+1)*G)) (c*(9/4)):=by
   rw[e1,show c*((q:Rat)-ec k*Y^k*G*Y*(1/c))=(c*(q:Rat)-(f:Rat))+(((f:Rat)-t*Y)+(t-ec k*Y^k*G)*Y) by grind];refine(h2.add (hf.add hd)).le ?_
   grind
  have hic:0<1/c:=div_pos (by decide) hk;have h4:=(show Ab (1/c) (1/c)from⟨by grind,Rat.le_refl⟩).mul h3;rw[show 1/c*(c*((q:Rat)-ec (k+1)*Y^(k+1)*G))=(q:Rat)-ec (k+1)*Y^(k+1)*G by grind,show 1/c*(c*(9/4))=9/4 by grind]at h4;exact h4
theorem exs_near(xr:Int)(g:Nat)(Y:Rat)(hY:Y*((2^g:Nat):Rat)=(xr:Rat))(hy:Ab Y (1/16))(n:Nat):Ab ((exs xr g n:Rat)-T n Y*((2^g:Nat):Rat)) (9/4*(n:Rat)):=by
 induction n with
 |zero=>
  have e:T 0 Y=1:=by
   unfold T;simp only[ev,ec,id,Rat.pow_zero]
   grind
  have e0:((0:Nat):Rat)=0:=rfl;simp only[exs];rw[e,e0,Rat.intCast_natCast];constructor<;>grind
 |succ n ih=>
  have h:=ext_near xr g Y hY hy (n+1);have e:T (n+1) Y=T n Y+ec (n+1)*Y^(n+1):=by
   unfold T;rw[ev];simp only[id]
  have h2:=ih.add h;rw[e,cast_succ];simp only[exs];rw[Rat.intCast_add];have e3:(exs xr g n:Rat)+(ext xr g (n+1):Rat)-(T n Y+ec (n+1)*Y^(n+1))*((2^g:Nat):Rat)=(exs xr g n:Rat)-T n Y*((2^g:Nat):Rat)+((ext xr g (n+1):Rat)-ec (n+1)*Y^(n+1)*((2^g:Nat):Rat)):=by grind
  rw[e3];exact h2.le (by grind)
theorem exs_cert(xr:Int)(g:Nat)(Y:Rat)(hY:Y*((2^g:Nat):Rat)=(xr:Rat))(hy:Ab Y (1/16))(n:Nat)(h0:ext xr g (n+1)=0):
 UB Y (((exs xr g n:Rat)-7*((n+1:Nat):Rat))/((2^g:Nat):Rat))∧UB (-Y) (((2^g:Nat):Rat)/((exs xr g n:Rat)+7*((n+1:Nat):Rat))):=by
 have hG:=npos (pow2_pos g);have h1:=ext_near xr g Y hY hy (n+1);rw[h0]at h1;have h2:=exs_near xr g Y hY hy n;have hec:=ec_mul n;have hecp:=ec_pos n;have hkp:=natpos n;obtain⟨m,hm,hm0⟩: ∃m:Rat,(m=Y∨m= -Y)∧0≤m:=by
  rcases rlt Y 0 with h|h
  ·exact⟨-Y,.inr rfl,by grind⟩
  ·exact⟨Y,.inl rfl,h⟩
 have hv:Ab (ec n*Y^n) 1:=by
  have h3:=(show Ab (ec n) 1 from⟨by grind,ec_le n⟩).mul ((hy.le (show 1/16≤1 by grind)).pow n);rw[one_pow]at h3;exact h3.le (by grind)
 obtain⟨K',hK',hK1',hKm'⟩: ∃K:Rat,Ab (ec n*Y^n) K∧K≤1∧(K*m=ec n*Y^(n+1)∨K*m= -(ec n*Y^(n+1))):=by
  rw[Rat.pow_succ];obtain⟨v1,v2⟩:=hv;rcases rlt (ec n*Y^n) 0 with h|h
  ·refine⟨-(ec n*Y^n),⟨by grind,by grind⟩,by grind,?_⟩;rcases hm with h'|h'
   ·right;rw[h'];grind
   ·left;rw[h'];grind
  ·refine⟨ec n*Y^n,⟨by grind,by grind⟩,v2,?_⟩;rcases hm with h'|h'
   ·left;rw[h'];grind
   ·right;rw[h'];grind
 obtain⟨c1,c2⟩:=exp_both n Y K' m hy hK' hK1' hm hm0;have h3:2*(K'*m)*((2^g:Nat):Rat)≤9/2*((n+1:Nat):Rat):=by
  have e:ec n*Y^(n+1)*((2^g:Nat):Rat)=((n+1:Nat):Rat)*(ec (n+1)*Y^(n+1)*((2^g:Nat):Rat)):=by rw[←hec];grind
  have h4:=(show Ab ((n+1:Nat):Rat) ((n+1:Nat):Rat)from⟨by grind,Rat.le_refl⟩).mul h1;obtain⟨a,b⟩:=h4;have e0:((0:Int):Rat)=0:=rfl;rw[e0]at a b;rcases hKm' with h|h
  ·rw[h];grind
  ·rw[h];grind
 have h5:=cast_succ n;obtain⟨a2,b2⟩:=h2;constructor
 ·exact c1.mono Rat.le_refl (div_le hG (by grind))
 ·have hT:=(T_half n Y hy).1;have hKm0:0≤K'*m:=Rat.mul_nonneg hK'.nonneg hm0;have hTG:((2^g:Nat):Rat)*(3/4)≤((2^g:Nat):Rat)*T n Y:=Rat.mul_le_mul_of_nonneg_left hT (Rat.le_of_lt hG);refine c2.mono Rat.le_refl ?_;have hp:0<T n Y+2*(K'*m):=by grind
  have hq:0<(exs xr g n:Rat)+7*((n+1:Nat):Rat):=by grind
  refine div_le hq ?_;rw[show 1/(T n Y+2*(K'*m))*((exs xr g n:Rat)+7*((n+1:Nat):Rat))=((exs xr g n:Rat)+7*((n+1:Nat):Rat))/(T n Y+2*(K'*m)) by grind];refine le_div hp ?_
  grind
def sqs(s0:Int)(g:Nat):Nat→Int
 |0=>s0
 |i+1=>sqs s0 g i*sqs s0 g i/((2^g:Nat):Int)
theorem ub_four:UB (-1) (1/4):=fun e he=>⟨[1/2,1/2],Pos.cons (by grind) (Pos.cons (by grind) (fun x hx=>by cases hx)),by simp only[prod];grind,by simp only[sm];grind⟩
theorem lt_four{r a:Rat}(h:UB r a)(hr:r<1)(ha:0≤a):a<4:=by
 rcases rlt a 4 with h1|h1
 ·exact h1
 ·have:=h.fits ub_four ha (by grind) (by grind)
  grind
theorem sqs_lo(s0:Int)(g:Nat)(r:Rat)(h:UB r ((s0:Rat)/((2^g:Nat):Rat)))(j:Nat)(hp: ∀i,i≤j→0<sqs s0 g i):UB (((2^j:Nat):Rat)*r) ((sqs s0 g j:Rat)/((2^g:Nat):Rat)):=by
 have hG:=npos (pow2_pos g);induction j with
 |zero=>
  have e:((2^0:Nat):Rat)=1:=rfl;simp only[sqs];rw[e];exact h.mono (by grind) Rat.le_refl
 |succ j ih=>
  have ih:=ih (fun i hi=>hp i (by omega));have hpj:(0:Rat)<(sqs s0 g j:Rat):=by exact_mod_cast hp j (by omega)
  have h0:0≤(sqs s0 g j:Rat)/((2^g:Nat):Rat):=Rat.le_of_lt (div_pos hpj hG);have h1:=ih.add ih h0 h0;have h2:=(fl_le (sqs s0 g j*sqs s0 g j) (2^g) (pow2_pos g)).1;have e:((2^(j+1):Nat):Rat)=2*((2^j:Nat):Rat):=by
   rw[Nat.pow_succ,Rat.natCast_mul];have:((2:Nat):Rat)=2:=rfl
   grind
  rw[Rat.intCast_mul]at h2;simp only[sqs];rw[e];refine h1.mono (by grind) (div_le hG ?_);generalize ((2^g:Nat):Rat)=G at*;generalize (sqs s0 g j:Rat)=s at*;have e2:s/G*(s/G)*G=s*s/G:=by grind
  rw[e2];exact le_div hG (by grind)
theorem sqs_hi(s0:Int)(g:Nat)(Y D:Rat)(hD:0≤D)(hs0:0<s0)(hG64:1024≤((2^g:Nat):Rat))(h:UB (-Y+2*D/((2^g:Nat):Rat)) (((2^g:Nat):Rat)/(s0:Rat)))(J:Nat)(hY:Ab (((2^J:Nat):Rat)*Y) (4/5))(hDJ:((2^J:Nat):Rat)*(2*D+4)≤1/8*((2^g:Nat):Rat))(j:Nat)(hj:j≤J):
 0<sqs s0 g j∧UB (-(((2^j:Nat):Rat)*Y)+(((2^j:Nat):Rat)*(2*D+4)-4)/((2^g:Nat):Rat)) (((2^g:Nat):Rat)/(sqs s0 g j:Rat))∧((2^g:Nat):Rat)<4*(sqs s0 g j:Rat):=by
 have hG:=npos (pow2_pos g);have small: ∀i,i≤J→ -(((2^i:Nat):Rat)*Y)+(((2^i:Nat):Rat)*(2*D+4)-4)/((2^g:Nat):Rat)≤37/40:=fun i hi=>by
  have hm:((2^i:Nat):Rat)≤((2^J:Nat):Rat):=by exact_mod_cast (Nat.pow_le_pow_right (show 0<2 by omega) hi)
  have hm0:=npos (pow2_pos i);have hmJ:=npos (pow2_pos J);have hr:Ab (((2^i:Nat):Rat)/((2^J:Nat):Rat)) 1:=⟨by have:=div_pos hm0 hmJ;grind,div_le hmJ (by grind)⟩;have h1:=hr.mul hY;rw[show((2^i:Nat):Rat)/((2^J:Nat):Rat)*(((2^J:Nat):Rat)*Y)=((2^i:Nat):Rat)*Y by grind]at h1;have h2:((2^i:Nat):Rat)*(2*D+4)≤((2^J:Nat):Rat)*(2*D+4):=Rat.mul_le_mul_of_nonneg_right hm (by grind);have h3:(((2^i:Nat):Rat)*(2*D+4)-4)/((2^g:Nat):Rat)≤1/8:=div_le hG (by grind);have:=h1.1;clear hr
  grind
 induction j with
 |zero=>
  have e:((2^0:Nat):Rat)=1:=rfl;have hs:(0:Rat)<(s0:Rat):=by exact_mod_cast hs0
  have hz:=small 0 (by omega);simp only[sqs];rw[e]at hz⊢;have h1:UB (-(1*Y)+(1*(2*D+4)-4)/((2^g:Nat):Rat)) (((2^g:Nat):Rat)/(s0:Rat)):=h.mono (by grind) Rat.le_refl;have h2:=lt_four h1 (by grind) (Rat.le_of_lt (div_pos hG hs));rw[Rat.div_lt_iff hs]at h2;exact⟨hs0,h1,h2⟩
 |succ j ih=>
  obtain⟨p1,p2,p3⟩:=ih (by omega);have hs:(0:Rat)<(sqs s0 g j:Rat):=by exact_mod_cast p1
  have h2:=(fl_le (sqs s0 g j*sqs s0 g j) (2^g) (pow2_pos g)).2;rw[Rat.intCast_mul]at h2;have hz:=small (j+1) hj;have e:((2^(j+1):Nat):Rat)=2*((2^j:Nat):Rat):=by
   rw[Nat.pow_succ,Rat.natCast_mul];have:((2:Nat):Rat)=2:=rfl
   grind
  simp only[sqs];rw[e]at hz⊢;clear small;generalize sqs s0 g j*sqs s0 g j/((2^g:Nat):Int)=q at*;generalize ((2^g:Nat):Rat)=G at*;generalize (sqs s0 g j:Rat)=s at*;have h3:s*s<G*((q:Rat)+1):=by grind
  have h4:G*G<16*(s*s):=by
   have:=mul_mono (Rat.le_of_lt hG) (Rat.le_of_lt hG) (Rat.le_of_lt p3) (Rat.le_of_lt p3);have h5:G*G<4*s*G:=by
    have:=Rat.mul_lt_mul_of_pos_right p3 hG
    grind
   have h6:4*s*G<4*s*(4*s):=by
    have:=Rat.mul_lt_mul_of_pos_left p3 (show 0<4*s by grind)
    grind
   grind
  have h5:G<16*((q:Rat)+1):=by
   rcases rlt G (16*((q:Rat)+1))with h|h
   ·exact h
   ·have:=Rat.mul_le_mul_of_nonneg_left h (Rat.le_of_lt hG)
    grind
  have hq:(0:Rat)<(q:Rat):=by grind
  have hqi:0<q:=by exact_mod_cast hq
  have hGs:0≤G/s:=Rat.le_of_lt (div_pos hG hs);have h6:=p2.add p2 hGs hGs;have h7:=h6.add (UB.one (show 0<((q:Rat)+1)/(q:Rat)from div_pos (by grind) hq)) (Rat.mul_nonneg hGs hGs) (Rat.le_of_lt (div_pos (by grind) hq));have e8:((q:Rat)+1)/(q:Rat)-1=1/(q:Rat):=by grind
  rw[e8]at h7;have e9:G/(q:Rat)≤G/s*(G/s)*(((q:Rat)+1)/(q:Rat)):=by
   refine div_le hq ?_;rw[show G/s*(G/s)*(((q:Rat)+1)/(q:Rat))*(q:Rat)=G*(G*((q:Rat)+1))/(s*s) by grind];refine le_div (Rat.mul_pos hs hs) ?_;have:=Rat.mul_le_mul_of_nonneg_left (Rat.le_of_lt h3) (Rat.le_of_lt hG)
   grind
  have hq63:1/(q:Rat)≤1/63:=div_le hq (by grind);have hG0:0<1/G:=div_pos (by decide) hG;have first:UB (-(2*((2^j:Nat):Rat)*Y)+(2*((((2^j:Nat):Rat)*(2*D+4)-4)/G)+1/(q:Rat))) (G/(q:Rat)):=h7.mono (by grind) e9
  have h10:=lt_four first (by grind) (Rat.le_of_lt (div_pos hG hq))
  rw[Rat.div_lt_iff hq]at h10;have h11:1/(q:Rat)≤4*(1/G):=div_le hq (by
   have:=Rat.mul_le_mul_of_nonneg_left (Rat.le_of_lt h10) (Rat.le_of_lt hG0)
   grind)
  exact⟨hqi,first.mono (by grind) Rat.le_refl,h10⟩
theorem ext_end(xr:Int)(g:Nat)(hg:10≤g)(hx:16*xr.natAbs≤2^g): ∃n,n≤g∧ext xr g (n+1)=0∧∀k,k≤n→ext xr g k≠0:=by
 have hG:1024≤2^g:=by
  have:=Nat.pow_le_pow_right (show 0<2 by omega) hg;exact this
 have step: ∀k,(ext xr g (k+1)).natAbs≤((ext xr g k).natAbs+15)/16/(k+1):=fun k=>by
  simp only[ext];rw[Int.natAbs_tdiv];show _/(k+1)≤_;refine Nat.div_le_div_right ?_;have h1:=Int.mul_ediv_add_emod (ext xr g k*xr) ((2^g:Nat):Int);have h2:=Int.emod_nonneg (ext xr g k*xr) (show((2^g:Nat):Int)≠0 by omega);have h3:=Int.emod_lt_of_pos (ext xr g k*xr) (show(0:Int)<((2^g:Nat):Int) by omega);generalize ext xr g k*xr/((2^g:Nat):Int)=f at*;have h4:(ext xr g k*xr).natAbs*16≤(ext xr g k).natAbs*2^g:=by
   rw[Int.natAbs_mul,Nat.mul_assoc,Nat.mul_comm xr.natAbs 16];exact Nat.mul_le_mul_left _ hx
  generalize ext xr g k*xr%((2^g:Nat):Int)=m at*;generalize ext xr g k*xr=p at*;generalize (ext xr g k).natAbs=A at*;generalize (2^g:Nat)=G at*;have h5:16*(f*(G:Int))≤(A:Int)*(G:Int):=by
   have:((p.natAbs*16:Nat):Int)≤((A*G:Nat):Int):=by exact_mod_cast h4
   rw[Int.natCast_mul,Int.natCast_mul]at this;have e:(G:Int)*f=f*(G:Int):=Int.mul_comm _ _;omega
  have h6: -((A:Int)*(G:Int))<16*((f+1)*(G:Int)):=by
   have:((p.natAbs*16:Nat):Int)≤((A*G:Nat):Int):=by exact_mod_cast h4
   rw[Int.natCast_mul,Int.natCast_mul]at this;have e:(G:Int)*f=f*(G:Int):=Int.mul_comm _ _;rw[Int.add_mul];omega
  have hG0:(0:Int)<(G:Int):=by omega
  have h7:16*f≤(A:Int):=by
   rw[←Int.mul_assoc]at h5;exact Int.le_of_mul_le_mul_right h5 hG0
  have h8: -(A:Int)<16*(f+1):=by
   rw[←Int.mul_assoc,←Int.neg_mul]at h6;exact Int.lt_of_mul_lt_mul_right h6 (by omega)
  omega
 have hz: ∀k,k≤g→(ext xr g k).natAbs*2^k≤2^g:=by
  intro k;induction k with
  |zero=>intro _;simp only[ext];omega
  |succ k ih=>
   intro hk;have h1:=ih (by omega);have h2:=step k;have h3:(ext xr g (k+1)).natAbs*2≤(ext xr g k).natAbs:=by
    rcases Nat.eq_zero_or_pos k with rfl|hk0
    ·have e:(ext xr g 0).natAbs=2^g:=by simp only[ext];omega
     rw[e]at h2⊢;rw[Nat.zero_add,Nat.div_one]at h2;rw[Nat.zero_add];omega
    ·have h4:((ext xr g k).natAbs+15)/16/(k+1)≤((ext xr g k).natAbs+15)/16/2:=Nat.div_le_div_left (by omega) (by omega);omega
   have e:(ext xr g (k+1)).natAbs*2^(k+1)=(ext xr g (k+1)).natAbs*2*2^k:=by rw[Nat.pow_succ];ac_rfl
   rw[e];exact Nat.le_trans (Nat.mul_le_mul_right _ h3) h1
 have he:ext xr g (g+1)=0:=by
  have h1:=hz g (Nat.le_refl _);have h2:(ext xr g g).natAbs≤1:=by
   have h3:(ext xr g g).natAbs*2^g≤1*2^g:=by omega
   exact Nat.le_of_mul_le_mul_right h3 (by omega)
  have h3:=step g;have h4:((ext xr g g).natAbs+15)/16/(g+1)≤1/(g+1):=Nat.div_le_div_right (by omega);have h5:1/(g+1)=0:=Nat.div_eq_of_lt (by omega);omega
 have first: ∀N,ext xr g (N+1)=0→∃n,n≤N∧ext xr g (n+1)=0∧∀k,k≤n→ext xr g k≠0:=by
  intro N;induction N with
  |zero=>
   intro h;refine⟨0,Nat.le_refl _,h,fun k hk=>?_⟩;obtain rfl:k=0:=by omega
   simp only[ext];omega
  |succ N ih=>
   intro h;by_cases h0:ext xr g (N+1)=0
   ·obtain⟨n,h1,h2,h3⟩:=ih h0;exact⟨n,by omega,h2,h3⟩
   ·by_cases ha: ∃k,k≤N∧ext xr g (k+1)=0
    ·obtain⟨k,hk,hk0⟩:=ha
     exfalso
     have stay: ∀d,ext xr g (k+1+d)=0:=by
      intro d;induction d with
      |zero=>exact hk0
      |succ d ih=>
       have:=step (k+1+d);rw[ih]at this;have e:((0:Int).natAbs+15)/16/(k+1+d+1)=0:=by
        show 0/_=0;exact Nat.zero_div _
       rw[e]at this;have e2:k+1+(d+1)=k+1+d+1:=by omega
       rw[e2];omega
     have:=stay (N-k);rw[show k+1+(N-k)=N+1 by omega]at this;exact h0 this
    ·refine⟨N+1,Nat.le_refl _,h,fun k hk=>?_⟩;rcases Nat.eq_zero_or_pos k with rfl|hk0
     ·simp only[ext];omega
     ·intro hc;rcases Nat.lt_or_ge k (N+2)with h'|h'
      ·by_cases hkk:k=N+1
       ·rw[hkk]at hc;exact h0 hc
       ·exact ha ⟨k-1,by omega,by rw[show k-1+1=k by omega];exact hc⟩
      ·omega
 obtain⟨n,h1,h2,h3⟩:=first g he
 exact⟨n,h1,h2,h3⟩
theorem near1{s D G:Rat}(hG:0<G)(hD:0≤D)(hp:0<s-D)(h:1/2*G+D≤s):s/(s-D)≤1+2*D/G:=by
 refine div_le hp ?_;have hc:2*D/G*G=2*D:=by grind
 have hc0:0≤2*D/G:=le_div hG (by grind);generalize 2*D/G=c at*;have h3:0≤c*(s-D-1/2*G):=Rat.mul_nonneg hc0 (by grind)
 grind
theorem near2{s D G:Rat}(hG:0<G)(hD:0≤D)(hp:0<s)(h:1/2*G≤s):(s+D)/s≤1+2*D/G:=by
 refine div_le hp ?_;have hc:2*D/G*G=2*D:=by grind
 have hc0:0≤2*D/G:=le_div hG (by grind);generalize 2*D/G=c at*;have h3:0≤c*(s-1/2*G):=Rat.mul_nonneg hc0 (by grind)
 grind
theorem canc1{p s G:Rat}(hp:0<p):s/G≤p/G*(s/p):=by
 have:p/G*(s/p)=s/G:=by grind
 grind
theorem canc2{p s G:Rat}(hp:0<p):G/s≤G/p*(p/s):=by
 have:G/p*(p/s)=G/s:=by grind
 grind
set_option maxHeartbeats 2000000 in
theorem exp_all(x:Int)(b g j n:Nat)(hbg:b≤g)(hb2:2≤b)(hg:12≤g)(hx:Ab (x:Rat) (3/4*((2^b:Nat):Rat)))(hj:5≤j)(hD:16*2^j*(7*(n+1)+1)*2^b≤2^g)
 (h0:ext (x*((2^(g-b):Nat):Int)/((2^j:Nat):Int)) g (n+1)=0):
 0≤sqs (exs (x*((2^(g-b):Nat):Int)/((2^j:Nat):Int)) g n) g j/((2^(g-b):Nat):Int)∧
 UB ((x:Rat)/((2^b:Nat):Rat)+1/4/((2^b:Nat):Rat)) (((sqs (exs (x*((2^(g-b):Nat):Int)/((2^j:Nat):Int)) g n) g j/((2^(g-b):Nat):Int):Int):Rat)/((2^b:Nat):Rat))∧
 UB (-((x:Rat)/((2^b:Nat):Rat))+1/4/((2^b:Nat):Rat)) (((2^b:Nat):Rat)/(((sqs (exs (x*((2^(g-b):Nat):Int)/((2^j:Nat):Int)) g n) g j/((2^(g-b):Nat):Int):Int):Rat)+1))∧
 ∀i,i≤j→0<sqs (exs (x*((2^(g-b):Nat):Int)/((2^j:Nat):Int)) g n) g i∧(sqs (exs (x*((2^(g-b):Nat):Int)/((2^j:Nat):Int)) g n) g i:Rat)<4*((2^g:Nat):Rat):=by
 have hB:=npos (pow2_pos b);have hG:=npos (pow2_pos g);have hH:=npos (pow2_pos (g-b));have hM:=npos (pow2_pos j);have hBH:((2^g:Nat):Rat)=((2^b:Nat):Rat)*((2^(g-b):Nat):Rat):=by
  rw[←Rat.natCast_mul,←Nat.pow_add,show b+(g-b)=g by omega]
 have hM32:(32:Rat)≤((2^j:Nat):Rat):=by
  have:32≤2^j:=Nat.pow_le_pow_right (show 0<2 by omega) hj
  exact_mod_cast this
 have hG12:(4096:Rat)≤((2^g:Nat):Rat):=by
  have:4096≤2^g:=Nat.pow_le_pow_right (show 0<2 by omega) hg
  exact_mod_cast this
 have hB1:(4:Rat)≤((2^b:Nat):Rat):=by
  have:4≤2^b:=Nat.pow_le_pow_right (show 0<2 by omega) hb2
  exact_mod_cast this
 obtain⟨x1,x2⟩:=fl_le (x*((2^(g-b):Nat):Int)) (2^j) (pow2_pos j);rw[Rat.intCast_mul,Rat.intCast_natCast]at x1 x2;generalize x*((2^(g-b):Nat):Int)/((2^j:Nat):Int)=xr at*;have hDr:16*((2^j:Nat):Rat)*(7*((n+1:Nat):Rat)+1)*((2^b:Nat):Rat)≤((2^g:Nat):Rat):=by exact_mod_cast hD
 have hn1:(1:Rat)≤((n+1:Nat):Rat):=by exact_mod_cast (show 1≤n+1 by omega)
 have hDd:7≤7*((n+1:Nat):Rat):=by grind
 have hY:(xr:Rat)/((2^g:Nat):Rat)*((2^g:Nat):Rat)=(xr:Rat):=by grind
 generalize hYd:(xr:Rat)/((2^g:Nat):Rat)=Y at*;have hxe:(x:Rat)*((2^(g-b):Nat):Rat)=(x:Rat)/((2^b:Nat):Rat)*((2^g:Nat):Rat):=by rw[hBH];grind
 have y1:((2^j:Nat):Rat)*Y≤(x:Rat)/((2^b:Nat):Rat):=by
  rw[hxe,←hY]at x1;rcases rlt ((x:Rat)/((2^b:Nat):Rat)) (((2^j:Nat):Rat)*Y)with h|h
  ·have:=Rat.mul_lt_mul_of_pos_right h hG
   grind
  ·exact h
 have y2:(x:Rat)/((2^b:Nat):Rat)≤((2^j:Nat):Rat)*Y+((2^j:Nat):Rat)/((2^g:Nat):Rat):=by
  rw[hxe,←hY]at x2;rw[show((2^j:Nat):Rat)*Y+((2^j:Nat):Rat)/((2^g:Nat):Rat)=(((2^j:Nat):Rat)*(Y*((2^g:Nat):Rat))+((2^j:Nat):Rat))/((2^g:Nat):Rat) by grind];exact le_div hG (Rat.le_of_lt x2)
 have hx':Ab ((x:Rat)/((2^b:Nat):Rat)) (3/4):=⟨le_div hB (by have:=hx.1;grind),div_le hB (by have:=hx.2;grind)⟩;generalize (x:Rat)/((2^b:Nat):Rat)=x' at*;clear hx hxe x1 x2 hYd hD;generalize hGd:((2^g:Nat):Rat)=G at*;generalize hMd:((2^j:Nat):Rat)=M at*;generalize hBd:((2^b:Nat):Rat)=B at*;generalize hHd:((2^(g-b):Nat):Rat)=H at*;generalize hDe:7*((n+1:Nat):Rat)=D at*;have hq:M*(D+1)*B≤1/16*G:=by grind
 have hq2:M*(D+1)≤1/64*G:=by
  have:M*(D+1)*4≤M*(D+1)*B:=Rat.mul_le_mul_of_nonneg_left hB1 (Rat.mul_nonneg (by grind) (by grind))
  grind
 have hMD:32*(D+1)≤M*(D+1):=Rat.mul_le_mul_of_nonneg_right hM32 (by grind);have hM8:M*8≤M*(D+1):=Rat.mul_le_mul_of_nonneg_left (by grind) (by grind);have h24:M*(2*D+4)≤1/8*G:=by grind
 have hMG:M/G≤1/128:=div_le hG (by grind);have hMY:Ab (M*Y) (31/40):=⟨by have:=hx'.1;grind,by have:=hx'.2;grind⟩;have hyy:Ab Y (1/16):=by
  have e:Y=M*Y/M:=by grind
  rw[e];exact⟨le_div hM (by have:=hMY.1;grind),div_le hM (by have:=hMY.2;grind)⟩
 have near:=exs_near xr g Y (by rw[hGd];exact hY) hyy n;obtain⟨c1,c2⟩:=exs_cert xr g Y (by rw[hGd];exact hY) hyy n h0;rw[hGd]at near c1 c2;rw[hDe]at c1 c2;have hT:=(T_half n Y hyy).1;have hTG:3/4*G≤T n Y*G:=Rat.mul_le_mul_of_nonneg_right hT (Rat.le_of_lt hG);have hnD:9/4*(n:Rat)≤D:=by
  have:=cast_succ n;have:(0:Rat)≤(n:Rat):=by exact_mod_cast Nat.zero_le n
  grind
 generalize hs0:exs xr g n=s0 at*;have hsG:1/2*G+D≤(s0:Rat):=by
  obtain⟨a,_⟩:=near
  grind
 have hsp:(0:Rat)<(s0:Rat):=by grind
 have hsi:0<s0:=by exact_mod_cast hsp
 have d1:UB (Y+2*D/G) ((s0:Rat)/G):=by
  have hp:0<(s0:Rat)-D:=by grind
  have h1:=c1.add (UB.one (show 0<(s0:Rat)/((s0:Rat)-D)from div_pos hsp hp)) (Rat.le_of_lt (div_pos hp hG)) (Rat.le_of_lt (div_pos hsp hp));refine h1.mono ?_ (canc1 hp);have h2:=near1 hG (show 0≤D by grind) hp hsG
  grind
 have d2:UB (-Y+2*D/G) (G/(s0:Rat)):=by
  have hp:0<(s0:Rat)+D:=by grind
  have h1:=c2.add (UB.one (show 0<((s0:Rat)+D)/(s0:Rat)from div_pos hp hsp)) (Rat.le_of_lt (div_pos hG hp)) (Rat.le_of_lt (div_pos hp hsp));refine h1.mono ?_ (canc2 hp);have h2:=near2 hG (show 0≤D by grind) hsp (show 1/2*G≤(s0:Rat) by grind)
  grind
 have sq:=sqs_hi s0 g Y D (by grind) hsi (by rw[hGd];grind) (by rw[hGd];exact d2) j (by rw[hMd];exact hMY.le (by grind)) (by rw[hGd,hMd];exact h24);have lo:=sqs_lo s0 g (Y+2*D/G) (by rw[hGd];exact d1) j (fun i hi=>(sq i hi).1);have mid: ∀i,i≤j→0<sqs s0 g i∧(sqs s0 g i:Rat)<4*G:=by
  intro i hi;have hsi:=(sq i hi).1;refine⟨hsi,?_⟩;have li:=sqs_lo s0 g (Y+2*D/G) (by rw[hGd];exact d1) i (fun k hk=>(sq k (by omega)).1);rw[hGd]at li;have hMi:((2^i:Nat):Rat)≤M:=by
   rw[←hMd]
   exact_mod_cast (Nat.pow_le_pow_right (show 0<2 by omega) hi)
  have hm0:=npos (pow2_pos i);generalize ((2^i:Nat):Rat)=m at*;have hsr:(0:Rat)<(sqs s0 g i:Rat):=by exact_mod_cast hsi
  have k1:m*Y≤31/40:=by
   rcases rlt 0 Y with h|h
   ·have:=Rat.mul_le_mul_of_nonneg_right hMi (Rat.le_of_lt h);have:=hMY.2
    grind
   ·have:=Rat.mul_nonneg (Rat.le_of_lt hm0) (show 0≤ -Y by grind)
    grind
  have k2:m*(2*D/G)≤1/8:=by
   rw[show m*(2*D/G)=m*(2*D)/G by grind];refine div_le hG ?_;have h3:m*(2*D)≤M*(2*D):=Rat.mul_le_mul_of_nonneg_right hMi (by grind);have h4:0≤M:=by grind
   grind
  have l4:=lt_four li (by grind) (Rat.le_of_lt (div_pos hsr hG));rw[Rat.div_lt_iff hG]at l4;exact l4
 obtain⟨p1,hi,-⟩:=sq j (Nat.le_refl _);rw[hGd,hMd]at lo hi;obtain⟨e1,e2⟩:=fl_le (sqs s0 g j) (2^(g-b)) (pow2_pos (g-b));rw[hHd]at e1 e2;have hE0:0≤sqs s0 g j/((2^(g-b):Nat):Int):=Int.ediv_nonneg (Int.le_of_lt p1) (Int.natCast_nonneg _);have hE0':(0:Rat)≤((sqs s0 g j/((2^(g-b):Nat):Int):Int):Rat):=by exact_mod_cast hE0
 generalize sqs s0 g j/((2^(g-b):Nat):Int)=E at*;generalize hSd:(sqs s0 g j:Rat)=Sq at*;have hSp:0<Sq:=by rw[←hSd];exact_mod_cast p1
 refine⟨hE0,lo.mono ?_ ?_,hi.mono ?_ ?_,mid⟩
 ·have:M*(2*D/G)≤1/4/B:=le_div hB (by
   rw[show M*(2*D/G)*B=2*(M*D*B)/G by grind];refine div_le hG ?_;have:0≤M*B:=Rat.mul_nonneg (by grind) (by grind)
   grind)
  grind
 ·refine div_le hB ?_;rw[hBH,show Sq/(B*H)*B=Sq/H by grind];exact le_div hH (by grind)
 ·have:M/G+(M*(2*D+4)-4)/G≤1/4/B:=le_div hB (by
   rw[show(M/G+(M*(2*D+4)-4)/G)*B=(M*(2*D+5)*B-4*B)/G by grind];refine div_le hG ?_;have:0≤M*B:=Rat.mul_nonneg (by grind) (by grind);have h7:M*B*7≤M*B*D:=Rat.mul_le_mul_of_nonneg_left hDd this
   grind)
  grind
 ·refine div_le (show 0<(E:Rat)+1 by grind) ?_;rw[show G/Sq*((E:Rat)+1)=G*((E:Rat)+1)/Sq by grind];refine le_div hSp ?_;rw[hBH];have:B*Sq≤B*(H*(E:Rat)+H):=Rat.mul_le_mul_of_nonneg_left (Rat.le_of_lt e2) (by grind)
  grind
end Go.Proofs.YthlakefgobflnaaGreatDoor.An
