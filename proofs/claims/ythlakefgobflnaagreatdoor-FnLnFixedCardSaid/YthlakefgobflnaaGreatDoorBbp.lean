/- FLOATS: a word scaled by 2^52 and cut to a whole number. FLOATS: the logarithm as a whole number of 2^-52. THE FIRST NUMBER a OF lnFixed, near the logarithm. CONTRACTS: the floats of lnFixed. CONTRACTS: BitLen, Uint64, Cmp. -/
import Derived.Test.YthlakefgobflnaaGreatDoorBbi
import Derived.Test.YthlakefgobflnaaGreatDoorBbo
import Derived.Laws.FloatArith
import Derived.Test.YthlakefgobflnaaGreatDoorBbn
import Derived.Test.YthlakefgobflnaaGreatDoorBbm
import Derived.Test.YthlakefgobflnaaGreatDoorBbk
import Derived.Test.YthlakefgobflnaaGreatDoorBbe
import Derived.Laws.Bits64b
namespace Go.Proofs.YthlakefgobflnaaGreatDoor.An
open Go Go.Proofs Ieee
set_option linter.unusedVariables false
theorem sg_absr(s:Bool)(m:Nat)(P:Rat)(hP:0<P)(c:Rat)(h:c≤(sg s m:Rat)*P∨(sg s m:Rat)*P≤ -c):c≤(m:Rat)*P:=by
 rw[sg_rat]at h;have hm:(0:Rat)≤(m:Rat):=Rat.natCast_nonneg;have h0:0≤(m:Rat)*P:=Rat.mul_nonneg hm (Rat.le_of_lt hP);cases s
 ·simp only[Bool.false_eq_true,if_false]at h
  grind
 ·simp only[if_true]at h
  grind
theorem sg_abu(s:Bool)(m:Nat)(P:Rat)(hP:0<P)(c:Rat)(h:Ab ((sg s m:Rat)*P) c):(m:Rat)*P≤c:=by
 obtain⟨h1,h2⟩:=h;rw[sg_rat]at h1 h2;cases s
 ·simp only[Bool.false_eq_true,if_false]at h1 h2;exact h2
 ·simp only[if_true]at h1 h2
  grind
theorem V_parts{r:Nat}{v:Rat}(hr:r<18446744073709551616)(h:V r v)(hb:p2 (-202)≤v∨v≤ -(p2 (-202)))(hu:Ab v (37/50)):
 ∃s E f,f<4503599627370496∧0<E∧E≤1022∧double.word s (E*4503599627370496+f)=r∧v=(sg s (4503599627370496+f):Rat)*p2 ((E:Int)-1075):=by
 obtain⟨s,m,e,hrd,rfl⟩:=h;have hl:double.leastPlace= -1074:=by decide
 have hbn:double.binade=4503599627370496:=by decide
 have hs:double.signWeight=9223372036854775808:=by decide
 have hi:double.infRung=9218868437227405312:=by decide
 have h1:=sg_absr s m (p2 e) (p2_pos e) _ hb;have h2:=sg_abu s m (p2 e) (p2_pos e) _ hu;unfold Format.read at hrd;rw[hl,hbn,hs,hi]at hrd;dsimp only at hrd;by_cases c1:r%9223372036854775808<4503599627370496
 ·rw[if_pos c1]at hrd;injection hrd with e1 e2 e3;subst e2;subst e3
  exfalso
  have h3:((r%9223372036854775808:Nat):Rat)≤((4503599627370496:Nat):Rat):=by exact_mod_cast Nat.le_of_lt c1
  have h4:((4503599627370496:Nat):Rat)=p2 52:=by rw[show(52:Int)=((52:Nat):Int)from rfl,p2_nat]
  rw[h4]at h3;have h5:=Rat.mul_le_mul_of_nonneg_right h3 (Rat.le_of_lt (p2_pos (-1074)));rw[←p2_add]at h5;have h6:p2 (-202)≤p2 (52+ -1074):=Rat.le_trans h1 h5;have h7:p2 (52+ -1074)<p2 (-202):=by
   have:=p2_mono (show(52+ -1074:Int)+1≤ -202 by omega);rw[p2_succ]at this;have:=p2_pos (52+ -1074)
   grind
  grind
 rw[if_neg c1]at hrd;by_cases c2:r%9223372036854775808<9218868437227405312
 ·rw[if_pos c2]at hrd;injection hrd with e1 e2 e3;obtain⟨E,hE⟩: ∃E,r%9223372036854775808/4503599627370496=E:=⟨_,rfl⟩
  obtain⟨f,hf⟩: ∃f,r%9223372036854775808%4503599627370496=f:=⟨_,rfl⟩
  rw[hE]at e3;rw[hf]at e2;have hE0:0<E:=by omega
  have he:e=(E:Int)-1075:=by omega
  subst he;subst e2;refine⟨s,E,f,by omega,hE0,?_,?_,rfl⟩
  ·rcases Nat.lt_or_ge E 1023 with h|h
   ·omega
   ·exfalso
    have h3:((4503599627370496:Nat):Rat)≤((4503599627370496+f:Nat):Rat):=by exact_mod_cast Nat.le_add_right _ f
    have h4:((4503599627370496:Nat):Rat)=p2 52:=by rw[show(52:Int)=((52:Nat):Int)from rfl,p2_nat]
    rw[h4]at h3;have h5:=Rat.mul_le_mul_of_nonneg_right h3 (Rat.le_of_lt (p2_pos ((E:Int)-1075)));rw[←p2_add]at h5;have h6:=p2_mono (show(0:Int)≤52+((E:Int)-1075) by omega);rw[p2_zero]at h6
    grind
  ·rw[←e1];unfold Format.word;rw[hs];by_cases c3:r<9223372036854775808
   ·have a1:r/9223372036854775808%2=0:=by omega
    rw[a1,if_neg (by decide)];omega
   ·have a1:r/9223372036854775808%2=1:=by omega
    rw[a1,if_pos (by decide)];omega
 ·rw[if_neg c2]at hrd
  split at hrd<;>cases hrd
theorem cut_zero(s:Bool)(m d:Nat):Toward.zero.cut s m d*2^d≤m∧m<(Toward.zero.cut s m d+1)*2^d:=by
 have e:Toward.zero.cut s m d=m/(1<<<min d (m.log2+2))+0:=rfl;rw[e,Nat.add_zero,Nat.one_shiftLeft];rcases Nat.le_total d (m.log2+2)with h|h
 ·rw[Nat.min_eq_left h];have h1:=Nat.div_add_mod m (2^d);have h2:=Nat.mod_lt m (Nat.two_pow_pos d);rw[Nat.mul_comm]at h1;rw[Nat.add_mul,Nat.one_mul];omega
 ·rw[Nat.min_eq_right h];have h0:m<2^(m.log2+2):=by
   rcases Nat.eq_zero_or_pos m with rfl|hm
   ·exact Nat.two_pow_pos _
   ·have:=(Nat.log2_lt (show m≠0 by omega)).1 (Nat.lt_succ_self m.log2);rw[show m.log2+2=m.log2.succ+1 from rfl,Nat.pow_succ];omega
  have h1:2^(m.log2+2)≤2^d:=Nat.pow_le_pow_right (by omega) h;rw[Nat.div_eq_of_lt h0];omega
theorem int_of_word(s:Bool)(E f:Nat)(hf:f<4503599627370496)(h0:0<E)(hE:E≤1074):
 ∃z:Int,(double.read (double.word s (E*4503599627370496+f))).toInt .zero=some z∧Ab ((z:Rat)-(sg s (4503599627370496+f):Rat)*p2 ((E:Int)-1075)) 1∧z.natAbs≤4503599627370496+f:=by
 rw[read_nrm s _ (by omega) (by omega)];have e1:(E*4503599627370496+f)/4503599627370496=E:=by omega
 have e2:(E*4503599627370496+f)%4503599627370496=f:=by omega
 rw[e1,e2];generalize hm:4503599627370496+f=m;obtain⟨d,hd⟩: ∃d:Nat,1075-E=d:=⟨_,rfl⟩
 have e3:(-1074+((E-1:Nat):Int)).toNat=0:=by omega
 have e4:(-(-1074+((E-1:Nat):Int))).toNat=d:=by omega
 have e5:(E:Int)-1075= -(d:Int):=by omega
 obtain⟨c1,c2⟩:=cut_zero s m d;refine⟨Ieee.signed s (Toward.zero.cut s m d) 0,?_,?_,?_⟩
 ·show some (Ieee.signed s (Toward.zero.cut s (m<<<(-1074+((E-1:Nat):Int)).toNat) (-(-1074+((E-1:Nat):Int))).toNat) 0)=_;rw[e3,e4,Nat.shiftLeft_zero]
 ·generalize Toward.zero.cut s m d=c at*;rw[signed_rat,e5,show((0:Nat):Int)=0 from rfl,p2_zero,Rat.mul_one,sg_rat,sg_rat];have hp:p2 (-(d:Int))*((2^d:Nat):Rat)=1:=by
   rw[←p2_nat,←p2_add,show-(d:Int)+(d:Int)=0 by omega,p2_zero]
  have hP:=p2_pos (-(d:Int));have g1:((c*2^d:Nat):Rat)≤(m:Rat):=by exact_mod_cast c1
  have g2:(m:Rat)<(((c+1)*2^d:Nat):Rat):=by exact_mod_cast c2
  rw[Rat.natCast_mul]at g1 g2;rw[Rat.natCast_add]at g2;have o1:((1:Nat):Rat)=1:=rfl;rw[o1]at g2;generalize p2 (-(d:Int))=q at*;generalize ((2^d:Nat):Rat)=D at*;generalize (c:Rat)=C at*;generalize (m:Rat)=M at*;have k1:=Rat.mul_le_mul_of_nonneg_right g1 (Rat.le_of_lt hP);have k2:=Rat.mul_le_mul_of_nonneg_right (Rat.le_of_lt g2) (Rat.le_of_lt hP);have k3:C*D*q=C:=by grind
  have k4:(C+1)*D*q=C+1:=by grind
  rw[k3]at k1;rw[k4]at k2;cases s
  ·simp only[Bool.false_eq_true,if_false];constructor<;>grind
  ·simp only[if_true];constructor<;>grind
 ·generalize Toward.zero.cut s m d=c at*;have hc:c≤m:=Nat.le_trans (Nat.le_mul_of_pos_right c (Nat.two_pow_pos d)) c1;unfold Ieee.signed;rw[Nat.shiftLeft_zero];cases s
  ·rw[if_neg (by decide)];omega
  ·rw[if_pos rfl];omega
end Go.Proofs.YthlakefgobflnaaGreatDoor.An
namespace Go.Proofs.YthlakefgobflnaaGreatDoor.An
open Go Go.Proofs Ieee
open Go.Extern
set_option linter.unusedVariables false
def Scale(r r2:Nat):Prop:=((double.order r 0==some .eq)=true∧r2=r)∨∃s E f,0<E∧E≤1022∧f<4503599627370496∧r=double.word s (E*4503599627370496+f)∧r2=double.word s ((E+52)*4503599627370496+f)
theorem signed_zero(s:Bool)(k:Nat):Ieee.signed s 0 k=0:=by
 unfold Ieee.signed;rw[Nat.shiftLeft_eq,Nat.zero_mul];cases s<;>rfl
theorem zero_word{r:Nat}(h:V r 0):(double.order r 0==some .eq)=true∧(double.read r).toInt .zero=some 0:=by
 obtain⟨s,m,e,hrd,hv⟩:=h;have hP:=p2_pos e;have hm:m=0:=by
  rcases Nat.eq_zero_or_pos m with h|h
  ·exact h
  ·exfalso
   have h1:(0:Rat)<(m:Rat):=by exact_mod_cast h
   have h2:=Rat.mul_pos h1 hP;rw[sg_rat]at hv;cases s
   ·simp only[Bool.false_eq_true,if_false]at hv
    grind
   ·simp only[if_true]at hv
    grind
 subst hm;have e0:double.read 0= .number false 0 (-1074):=by decide
 constructor
 ·unfold Format.order;rw[hrd,e0,ord_num,signed_zero,signed_zero];rfl
 ·rw[hrd];show some (Ieee.signed s (Toward.zero.cut s (0<<<e.toNat) (-e).toNat) 0)=some 0;rw[Nat.zero_shiftLeft];have:=(cut_zero s 0 (-e).toNat).1;have h0:Toward.zero.cut s 0 (-e).toNat=0:=by
   rcases Nat.eq_zero_or_pos (Toward.zero.cut s 0 (-e).toNat)with h|h
   ·exact h
   ·have:=Nat.mul_pos h (Nat.two_pow_pos (-e).toNat);omega
  rw[h0,signed_zero]
theorem log_int(t:Nat)(ht:t≤4503599627370496)(X:Rat)(hX:X*4503599627370496=4503599627370496+(t:Rat)):
 ∃r r2 z v,(∀(P:Program) (w:World),(MathLog.archLog #[.float .f64 (4607182418800017408+t)]).run P w= .ok (.float .f64 r) w)∧Scale r r2∧floatToIntVal .f64 r2 .i64=some z∧
  Ab ((z:Rat)-v*4503599627370496) 1∧Ab v (37/50)∧UB (v+7/20) X∧UB (-v+7/20) (1/X)∧z.natAbs≤9007199254740992:=by
 obtain⟨r,v,h1,hlt,h2,h3,h4,h5,h6⟩:=log_cert t ht X hX;by_cases hv:v=0
 ·subst hv;obtain⟨k1,k2⟩:=zero_word h2;refine⟨r,r,0,0,h1,.inl ⟨k1,rfl⟩,?_,?_,h4,h5,h6,by decide⟩
  ·unfold floatToIntVal;rw[show FloatKind.f64.decode r=double.read r from rfl,k2];rfl
  ·rw[Rat.zero_mul];constructor<;>decide+kernel
 ·obtain⟨s,E,f,hf,hE0,hE,hr,hve⟩:=V_parts hlt h2 (h3.resolve_left hv) h4;obtain⟨z,z1,z2,z3⟩:=int_of_word s (E+52) f hf (by omega) (by omega);refine⟨r,_,z,v,h1,.inr ⟨s,E,f,hE0,hE,hf,hr.symm,rfl⟩,?_,?_,h4,h5,h6,by omega⟩
  ·unfold floatToIntVal;rw[show FloatKind.f64.decode (double.word s ((E+52)*4503599627370496+f))=double.read (double.word s ((E+52)*4503599627370496+f))from rfl,z1];have m1:IntKind.i64.min= -9223372036854775808:=by decide
   have m2:IntKind.i64.max=9223372036854775807:=by decide
   show(if IntKind.i64.min≤z∧z≤IntKind.i64.max then some z else none)=some z;rw[m1,m2,if_pos (by omega)]
  ·rw[show((E+52:Nat):Int)-1075=((E:Int)-1075)+52 by omega,p2_add,←Rat.mul_assoc,←hve]at z2;have e52:p2 52=4503599627370496:=by
    rw[show(52:Int)=((52:Nat):Int)from rfl,p2_nat];rfl
   rw[e52]at z2;exact z2
end Go.Proofs.YthlakefgobflnaaGreatDoor.An
namespace Go.Proofs.YthlakefgobflnaaGreatDoor.An
open Go Go.Proofs Ieee
set_option linter.unusedVariables false
theorem near_ub(X X' v w:Rat)(h1:1≤X)(h1':1≤X')(hn:Ab (X-X') (1/1000000000))(hw:Ab (w-v) (1/10000))(l1:UB (v+7/20) X')(l2:UB (-v+7/20) (1/X')):UB (w+9/25) X∧UB (-w+9/25) (1/X):=by
 have hq:UB (1000000001/1000000000-1) (1000000001/1000000000):=UB.one (by decide+kernel);obtain⟨n1,n2⟩:=hn;obtain⟨w1,w2⟩:=hw;constructor
 ·exact(l1.add hq (by grind) (by decide+kernel)).mono (by grind) (by grind)
 ·have e1:X*(1/X)=1:=by rw[Rat.div_def,Rat.one_mul,Rat.mul_inv_cancel _ (by grind)]
  have e2:X'*(1/X')=1:=by rw[Rat.div_def,Rat.one_mul,Rat.mul_inv_cancel _ (by grind)]
  have p1:0<1/X:=by rw[Rat.div_def,Rat.one_mul];exact Rat.inv_pos.2 (by grind)
  have p2:0<1/X':=by rw[Rat.div_def,Rat.one_mul];exact Rat.inv_pos.2 (by grind)
  generalize 1/X=i at*;generalize 1/X'=i' at*;refine(l2.add hq (by grind) (by decide+kernel)).mono (by grind) ?_;have h3:0≤X*(1000000001/1000000000)-X':=by grind
  have h4:=Rat.mul_nonneg h3 (Rat.le_of_lt (Rat.mul_pos p1 p2));have e3:(X*(1000000001/1000000000)-X')*(i*i')=i'*(1000000001/1000000000)-i:=by grind
  rw[e3]at h4
  grind
def topOf(m b:Nat):Nat:=if 59<b then m/2^(b-59)else m*2^(59-b)
def aOf(z:Int)(b:Nat):Int:=if 52≤b then z*((2^(b-52):Nat):Int)else z/((2^(52-b):Nat):Int)
theorem top_near(m b:Nat)(h1:2^b≤m)(h2:m<2*2^b):576460752303423488≤topOf m b∧topOf m b<1152921504606846976∧topOf m b*2^b≤m*576460752303423488∧m*576460752303423488<(topOf m b+1)*2^b:=by
 unfold topOf;have hb:=pow2_pos b;have e59:(2:Nat)^59=576460752303423488:=by decide
 by_cases h:59<b
 ·rw[if_pos h];have e:2^b=576460752303423488*2^(b-59):=by rw[←e59,←Nat.pow_add];congr 1;omega
  have hp:=pow2_pos (b-59);rw[e]at h1 h2⊢;generalize 2^(b-59)=P at*;have d1:=Nat.div_add_mod m P;have d2:=Nat.mod_lt m hp;have d3:576460752303423488≤m/P:=(Nat.le_div_iff_mul_le hp).2 h1;have d4:m/P<1152921504606846976:=(Nat.div_lt_iff_lt_mul hp).2 (by omega);generalize m/P=q at*;have e2:q*(576460752303423488*P)=576460752303423488*(P*q):=by ac_rfl
  have e3:(q+1)*(576460752303423488*P)=576460752303423488*(P*q)+576460752303423488*P:=by rw[Nat.add_mul,e2,Nat.one_mul]
  rw[e2,e3];refine⟨d3,d4,by omega,by omega⟩
 ·rw[if_neg h];have e:576460752303423488=2^b*2^(59-b):=by rw[←e59,←Nat.pow_add];congr 1;omega
  have hp:=pow2_pos (59-b);have k1:2^b*2^(59-b)≤m*2^(59-b):=Nat.mul_le_mul_right _ h1;have k2:m*2^(59-b)<2*2^b*2^(59-b):=Nat.mul_lt_mul_of_pos_right h2 hp;rw[Nat.mul_assoc]at k2;rw[←e]at k1 k2;have e2:m*2^(59-b)*2^b=m*576460752303423488:=by rw[e];ac_rfl
  refine⟨k1,by omega,by omega,?_⟩;rw[Nat.add_mul,e2,Nat.one_mul];omega
theorem a_near(z:Int)(b:Nat)(hb:20≤b):Ab ((aOf z b:Rat)/((2^b:Nat):Rat)-(z:Rat)/4503599627370496) (1/1000000):=by
 unfold aOf;have hB:=npos (pow2_pos b);have hB20:(1048576:Rat)≤((2^b:Nat):Rat):=by
  have:1048576≤2^b:=Nat.pow_le_pow_right (show 0<2 by omega) hb
  exact_mod_cast this
 have e52:(2:Nat)^52=4503599627370496:=by decide
 by_cases h:52≤b
 ·rw[if_pos h];have e:2^b=4503599627370496*2^(b-52):=by rw[←e52,←Nat.pow_add];congr 1;omega
  have hp:=npos (pow2_pos (b-52));rw[Rat.intCast_mul,Rat.intCast_natCast];have eB:((2^b:Nat):Rat)=4503599627370496*((2^(b-52):Nat):Rat):=by rw[e,Rat.natCast_mul];rfl
  generalize ((2^(b-52):Nat):Rat)=P at*;rw[eB]at hB⊢;have k:(z:Rat)*P/(4503599627370496*P)-(z:Rat)/4503599627370496=0:=by grind
  rw[k];constructor<;>decide+kernel
 ·rw[if_neg h];have e:4503599627370496=2^b*2^(52-b):=by rw[←e52,←Nat.pow_add];congr 1;omega
  have hp:=npos (pow2_pos (52-b));have hpi:(0:Int)<((2^(52-b):Nat):Int):=by have:=pow2_pos (52-b);omega
  have d1:=Int.mul_ediv_add_emod z ((2^(52-b):Nat):Int);have d2:=Int.emod_lt_of_pos z hpi;have d3:=Int.emod_nonneg z (show((2^(52-b):Nat):Int)≠0 by omega);have eL:(4503599627370496:Rat)=((2^b:Nat):Rat)*((2^(52-b):Nat):Rat):=by
   rw[←Rat.natCast_mul,←e];rfl
  generalize hq:z/((2^(52-b):Nat):Int)=q at*;generalize z%((2^(52-b):Nat):Int)=r at*;have g1:((2^(52-b):Nat):Rat)*(q:Rat)+(r:Rat)=(z:Rat):=by rw[←d1,Rat.intCast_add,Rat.intCast_mul,Rat.intCast_natCast]
  have g2:(r:Rat)<((2^(52-b):Nat):Rat):=by
   have:(r:Rat)<(((2^(52-b):Nat):Int):Rat):=by exact_mod_cast d2
   rwa[Rat.intCast_natCast]at this
  have g3:(0:Rat)≤(r:Rat):=by exact_mod_cast d3
  rw[eL,←g1];generalize ((2^(52-b):Nat):Rat)=P at*;generalize ((2^b:Nat):Rat)=B at*;generalize (q:Rat)=Q at*;generalize (r:Rat)=R at*;have k:Q/B-(P*Q+R)/(B*P)= -(R/(B*P)):=by grind
  rw[k];have hBP:0<B*P:=Rat.mul_pos hB hp;have k1:R/(B*P)*(B*P)=R:=by grind
  have k2:0≤R/(B*P):=by rw[Rat.div_def];exact Rat.mul_nonneg g3 (Rat.le_of_lt (Rat.inv_pos.2 hBP))
  generalize R/(B*P)=y at*;constructor
  ·rcases rlt (1/1000000) y with hlt|hlt
   ·exfalso
    have k3:=Rat.mul_lt_mul_of_pos_right hlt hBP;rw[k1]at k3;have k4:1048576*P≤B*P:=Rat.mul_le_mul_of_nonneg_right hB20 (Rat.le_of_lt hp)
    grind
   ·grind
  ·grind
theorem a_facts(m b:Nat)(hb:20≤b)(h1:2^b≤m)(h2:m<2*2^b): ∃t r r2 z,t≤4503599627370496∧double.write (.number false (topOf m b) 0)=4872894796814876672+t∧
 (∀(P:Program) (w:World),(Extern.MathLog.archLog #[.float .f64 (4607182418800017408+t)]).run P w= .ok (.float .f64 r) w)∧Scale r r2∧floatToIntVal .f64 r2 .i64=some z∧z.natAbs≤9007199254740992∧
 Ab (aOf z b:Rat) (3/4*((2^b:Nat):Rat))∧UB ((aOf z b:Rat)/((2^b:Nat):Rat)+9/25) ((m:Rat)/((2^b:Nat):Rat))∧UB (-((aOf z b:Rat)/((2^b:Nat):Rat))+9/25) (((2^b:Nat):Rat)/(m:Rat)):=by
 obtain⟨t1,t2,t3,t4⟩:=top_near m b h1 h2;obtain⟨t,ht,hw,u1,u2⟩:=word60 (topOf m b) t1 t2;obtain⟨r,r2,z,v,k1,k2,k3,k4,k5,k6,k7,k8⟩:=log_int t ht (1+(t:Rat)/4503599627370496) (by grind);have hB:=npos (pow2_pos b);have ha:=a_near z b hb;have g1:((2^b:Nat):Rat)≤(m:Rat):=by exact_mod_cast h1
 have g2:((topOf m b:Nat):Rat)*((2^b:Nat):Rat)≤(m:Rat)*576460752303423488:=by exact_mod_cast t3
 have g3:(m:Rat)*576460752303423488<(((topOf m b+1)*2^b:Nat):Rat):=by exact_mod_cast t4
 have g4:((topOf m b:Nat):Rat)≤((576460752303423488+128*t+64:Nat):Rat):=by exact_mod_cast u1
 have g5:((576460752303423488+128*t:Nat):Rat)≤((topOf m b+64:Nat):Rat):=by exact_mod_cast u2
 rw[Rat.natCast_mul,Rat.natCast_add]at g3;rw[Rat.natCast_add,Rat.natCast_add,Rat.natCast_mul]at g4;rw[Rat.natCast_add,Rat.natCast_mul,Rat.natCast_add]at g5;have o1:((1:Nat):Rat)=1:=rfl;have o2:((576460752303423488:Nat):Rat)=576460752303423488:=rfl;have o3:((128:Nat):Rat)=128:=rfl;have o4:((64:Nat):Rat)=64:=rfl;rw[o1]at g3;rw[o2,o3,o4]at g4 g5;have ht0:(0:Rat)≤(t:Rat):=Rat.natCast_nonneg;refine⟨t,r,r2,z,ht,hw,k1,k2,k3,k8,?_⟩;generalize ((topOf m b:Nat):Rat)=n at*;generalize (aOf z b:Rat)=A at*;generalize (z:Rat)=Z at*;generalize (t:Rat)=T at*;generalize (m:Rat)=M at*;generalize ((2^b:Nat):Rat)=B at*;have hM:0<M:=by grind
 have eX:M/B*B=M:=by grind
 have eI:1/(M/B)=B/M:=by grind
 have eT:T/4503599627370496*4503599627370496=T:=by grind
 have eA:A/B*B=A:=by grind
 have eZ:Z/4503599627370496*4503599627370496=Z:=by grind
 obtain⟨w1,w2⟩:=ha;obtain⟨k4a,k4b⟩:=k4;obtain⟨k5a,k5b⟩:=k5;generalize M/B=X at*;generalize T/4503599627370496=S at*;generalize Z/4503599627370496=Y at*;have hX1:1≤X:=by
  rcases rlt X 1 with h|h
  ·have:=Rat.mul_lt_mul_of_pos_right h hB
   grind
  ·exact h
 have hX2:n≤X*576460752303423488:=by
  rcases rlt (X*576460752303423488) n with h|h
  ·have:=Rat.mul_lt_mul_of_pos_right h hB
   grind
  ·exact h
 have hX3:X*576460752303423488≤n+1:=by
  rcases rlt (n+1) (X*576460752303423488)with h|h
  ·have:=Rat.mul_lt_mul_of_pos_right h hB
   grind
  ·exact h
 have hn:Ab (X-(1+S)) (1/1000000000):=by constructor<;>grind
 have hw':Ab (A/B-v) (1/10000):=by
  generalize A/B=D at*;constructor<;>grind
 obtain⟨l1,l2⟩:=near_ub X (1+S) v (A/B) hX1 (by grind) hn hw' k6 k7;rw[eI]at l2;refine⟨?_,l1,l2⟩;obtain⟨w3,w4⟩:=hw';generalize A/B=D at*;have d1:D≤3/4:=by grind
 have d2: -(3/4)≤D:=by grind
 have m1:=Rat.mul_le_mul_of_nonneg_right d1 (Rat.le_of_lt hB);have m2:=Rat.mul_le_mul_of_nonneg_right d2 (Rat.le_of_lt hB);rw[eA]at m1 m2;constructor<;>grind
end Go.Proofs.YthlakefgobflnaaGreatDoor.An
namespace Go.Proofs.YthlakefgobflnaaGreatDoor.G
open Go.RowKit Go.Proofs.YthlakefgobflnaaGreatDoorW.PrintWords Go.Proofs.YthlakefgobflnaaGreatDoorW.PrintLast Go.Proofs.YthlakefgobflnaaGreatDoorW.PrintMore Go.Proofs.YthlakefgobflnaaGreatDoor.S
set_option linter.unusedVariables false
set_option linter.unusedSimpArgs false
theorem word_pos(r:Nat):Ieee.double.word false r=r:=rfl
theorem ldexpTop_is(t:Nat)(w:World)(ht:t≤4503599627370496):
 Calls Tryz.prog 60 #[.float .f64 (4872894796814876672+t),.int .i64 (-59)] w fun e w'=>e= .returned (.float .f64 (4607182418800017408+t))∧w'=w:=by
 refine Ldexp_of _ _ _ w ?_;rcases Nat.lt_or_ge t 4503599627370496 with h|h
 ·have:=ldexp_is false 1082 t 1023 (4872894796814876672+t) (4607182418800017408+t) (-59) w (by omega) (by omega) h (by omega) (by omega) (by omega) (by omega) (by omega);rwa[word_pos,word_pos]at this
 ·have:=ldexp_is false 1083 0 1024 (4872894796814876672+t) (4607182418800017408+t) (-59) w (by omega) (by omega) (by omega) (by omega) (by omega) (by omega) (by omega) (by omega);rwa[word_pos,word_pos]at this
theorem ldexpScale_is(r r2:Nat)(w:World)(h:An.Scale r r2):
 Calls Tryz.prog 60 #[.float .f64 r,.int .i64 52] w fun e w'=>e= .returned (.float .f64 r2)∧w'=w:=by
 refine Ldexp_of _ _ _ w ?_;rcases h with⟨h,rfl⟩|⟨s,E,f,h0,h1,h2,rfl,rfl⟩
 ·exact ldexp0_is r2 52 w h
 ·exact ldexp_is s E f (E+52) _ _ 52 w h0 (by omega) h2 (by omega) (by omega) (by omega) rfl rfl
theorem ln_floats(m b:Nat)(hb:20≤b)(h1:2^b≤m)(h2:m<2*2^b): ∃(x1 x2 x3 x4:Nat) (z:Int),
 (∀w,(convert 73 102 (.int .u64 ((An.topOf m b:Nat):Int))).run Tryz.prog w= .ok (.float .f64 x1) w)∧
 (∀w,Calls Tryz.prog 60 #[.float .f64 x1,.int .i64 (-59)] w fun e w'=>e= .returned (.float .f64 x2)∧w'=w)∧
 (∀w,Calls Tryz.prog 61 #[.float .f64 x2] w fun e w'=>e= .returned (.float .f64 x3)∧w'=w)∧
 (∀w,Calls Tryz.prog 60 #[.float .f64 x3,.int .i64 52] w fun e w'=>e= .returned (.float .f64 x4)∧w'=w)∧
 (∀w,(convert 102 2 (.float .f64 x4)).run Tryz.prog w= .ok (.int .i64 z) w)∧z.natAbs≤9007199254740992∧
 An.Ab (An.aOf z b:Rat) (3/4*((2^b:Nat):Rat))∧An.UB ((An.aOf z b:Rat)/((2^b:Nat):Rat)+9/25) ((m:Rat)/((2^b:Nat):Rat))∧An.UB (-((An.aOf z b:Rat)/((2^b:Nat):Rat))+9/25) (((2^b:Nat):Rat)/(m:Rat)):=by
 obtain⟨t,r,r2,z,ht,hw,hlog,hsc,hz,hzb,ha,l1,l2⟩:=An.a_facts m b hb h1 h2;refine⟨4872894796814876672+t,4607182418800017408+t,r,r2,z,fun w=>?_,fun w=>ldexpTop_is t w ht,fun w=>Log_is _ r w hlog,fun w=>ldexpScale_is r r2 w hsc,fun w=>?_,hzb,ha,l1,l2⟩
 ·rw[run_convert_int_float w 73 102 .u64 .f64 _ (by kernel_rfl) (by kernel_rfl)]
  congr 2
 ·exact run_convert_float_int w 102 2 .f64 .i64 r2 z (by kernel_rfl) (by kernel_rfl) hz
end Go.Proofs.YthlakefgobflnaaGreatDoor.G
namespace Go.Proofs.YthlakefgobflnaaGreatDoor.G
open Go.RowKit Go.Proofs.YthlakefgobflnaaGreatDoorW.PrintWords Go.Proofs.YthlakefgobflnaaGreatDoorW.PrintLast Go.Proofs.YthlakefgobflnaaGreatDoorW.PrintMore Go.Proofs.YthlakefgobflnaaGreatDoor.S
set_option linter.unusedVariables false
set_option linter.unusedSimpArgs false
theorem bitLen_eq{x k:Nat}(h1:2^k≤x)(h2:x<2^(k+1))(hk:k<64):Lib.bitLen x=k+1:=by
 have h3:x<2^64:=Nat.lt_of_lt_of_le h2 (Nat.pow_le_pow_right (by omega) hk);rw[Lib.bitLen_shift k x h1 h3];have:x/2^k=1:=Nat.div_eq_of_lt_le (by omega) (by rw[Nat.pow_succ]at h2;omega);rw[this];rfl
theorem or_rng{x y k:Nat}(h1:2^k≤x)(h2:x<2^(k+1))(hy:y≤x)(hk:k<64): ∃z:Nat,Go.bits .or .u64 (x:Int) (y:Int)=(z:Int)∧2^k≤z∧z<2^(k+1):=by
 have h3:x<2^64:=Nat.lt_of_lt_of_le h2 (Nat.pow_le_pow_right (by omega) hk);refine⟨x|||y,bits_or_u64_nat x y (by omega) (by omega),Nat.le_trans h1 Nat.left_le_or,Nat.or_lt_two_pow h2 (by omega)⟩
theorem top_bits{a K:Nat}(h1:2^K≤a)(h2:a<2^(K+1)): ∃l T k,(L64.lim a).length=l+1∧(L64.lim a).getD l 0=((T:Nat):Int)∧2^k≤T∧T<2^(k+1)∧k<64∧l*64+(k+1)=K+1:=by
 have hp:=Nat.two_pow_pos K;have hB: ∀i,(18446744073709551616:Nat)^i=2^(64*i):=fun i=>by rw[show(18446744073709551616:Nat)=2^64 from rfl,←Nat.pow_mul]
 have hl0:(L64.lim a).length≠0:=fun e=>by
  have:=L64.lim_eq_nil.1 (List.length_eq_zero_iff.1 e);omega
 obtain⟨l,hl⟩: ∃l,(L64.lim a).length=l+1:=⟨(L64.lim a).length-1,by omega⟩
 have e1:=(L64.len_lim a l).1 (by omega);have e2:a/18446744073709551616^(l+1)=0:=Decidable.not_not.1 (fun h=>by have:=(L64.len_lim a (l+1)).2 h;omega);rw[hB]at e1 e2;have e3:2^(64*l)≤a:=by
  rcases Nat.lt_or_ge a (2^(64*l))with h|h
  ·exact absurd (Nat.div_eq_of_lt h) e1
  ·exact h
 have e4:a<2^(64*(l+1)):=by
  rcases Nat.lt_or_ge a (2^(64*(l+1)))with h|h
  ·exact h
  ·have:=Nat.div_pos h (Nat.two_pow_pos _);omega
 have e5:64*l<K+1:=(Nat.pow_lt_pow_iff_right (a:=2) (by omega)).1 (Nat.lt_of_le_of_lt e3 h2);have e6:K<64*(l+1):=(Nat.pow_lt_pow_iff_right (a:=2) (by omega)).1 (Nat.lt_of_le_of_lt h1 e4);have e7:2^K=2^(64*l)*2^(K-64*l):=by rw[←Nat.pow_add];congr 1;omega
 have e8:2^(K+1)=2^(64*l)*2^(K-64*l+1):=by rw[←Nat.pow_add];congr 1;omega
 refine⟨l,a/2^(64*l),K-64*l,hl,?_,?_,?_,by omega,by omega⟩
 ·rw[L64.lim_get,hB,Nat.mod_eq_of_lt];rw[Nat.div_lt_iff_lt_mul (Nat.two_pow_pos _),show(18446744073709551616:Nat)=2^64 from rfl,←Nat.pow_add];rwa[show 64+64*l=64*(l+1) by omega]
 ·rw[Nat.le_div_iff_mul_le (Nat.two_pow_pos _),Nat.mul_comm,←e7];exact h1
 ·rw[Nat.div_lt_iff_lt_mul (Nat.two_pow_pos _),Nat.mul_comm,←e8];exact h2
set_option maxRecDepth 100000 in
theorem natBitLen_is(v:Value)(r:Option Nat)(a K:Nat)(w:World)(hx:Opd w v r (L64.lim a))(h1:2^K≤a)(h2:a<2^(K+1))(hK:K<6000):
 Calls Tryz.prog 76 #[v] w fun e w'=>e= .returned (.int .i64 ((K+1:Nat):Int))∧Below w.heap.size w w':=by
 have HB:=ak (Below.refl w.heap.size w);obtain⟨l,T,k,hl,hT,hk1,hk2,hk,hs⟩:=top_bits h1 h2;obtain⟨p,c,rfl,_,hR,_,_,_⟩:=hx.open_ (by omega);have hc:=hR.2 l (by omega);rw[hl];have hc0:w.cell? ⟨p,l,none⟩=some (.int .u64 (T:Int)):=by
  rw[←hT,←hc];show _=w.cell? ⟨p,0+l,none⟩;rw[Nat.zero_add]
 have HLen:=ak (fun(z:Nat) (w0:World) (a1:2^k≤z) (a2:z<2^(k+1))=>by
  have a3:z<2^64:=Nat.lt_of_lt_of_le a2 (Nat.pow_le_pow_right (by omega) hk);have:=len_is (z:Int) w0 (by omega) (by omega);rwa[Int.toNat_natCast,bitLen_eq a1 a2 hk]at this)
 have HS:=ak (fun(z y:Nat) (a1:2^k≤z) (a2:z<2^(k+1)) (hy:y≤z)=>or_rng a1 a2 hy hk);have HE:=ak (show wrap64 (wrap64 ((l:Int)*64)+((k:Int)+1))=((K+1:Nat):Int) by rw[Lm.w64 (i:=(l:Int)*64) (by omega) (by omega),Lm.w64 (by omega) (by omega)];omega);have HQ:=ak (And.intro hk1 hk2);obtain⟨m,hm⟩: ∃m,l+1=m:=⟨_,rfl⟩
 rw[hm];have e1:wrap64 ((m:Int)-1)=(l:Int):=by rw[Lm.w64 (by omega) (by omega)];omega
 have c0:(0:Int)≤(l:Int):=by omega
 have c1:(l:Int)<(m:Int):=by omega
 have c2:l<m:=by omega
 clear hx h1 h2 hK hl hT hR hc hs hk hk1 hk2 hm
 go_enter Tryz.func76,Tryz.ntmps76
 go_wp2_with fail
 obtain⟨T1,q0,a0,b0⟩:=HS.out T (T/2) HQ.out.1 HQ.out.2 (Nat.div_le_self _ _);rw[show Go.bits .or .u64 (T:Int) ((T:Int)/2)=(T1:Int)from q0];obtain⟨T2,q1,a1,b1⟩:=HS.out T1 (T1/4) a0 b0 (Nat.div_le_self _ _);rw[show Go.bits .or .u64 (T1:Int) ((T1:Int)/4)=(T2:Int)from q1];obtain⟨T3,q2,a2,b2⟩:=HS.out T2 (T2/16) a1 b1 (Nat.div_le_self _ _);rw[show Go.bits .or .u64 (T2:Int) ((T2:Int)/16)=(T3:Int)from q2];obtain⟨T4,q3,a3,b3⟩:=HS.out T3 (T3/256) a2 b2 (Nat.div_le_self _ _);rw[show Go.bits .or .u64 (T3:Int) ((T3:Int)/256)=(T4:Int)from q3];obtain⟨T5,q4,a4,b4⟩:=HS.out T4 (T4/65536) a3 b3 (Nat.div_le_self _ _);rw[show Go.bits .or .u64 (T4:Int) ((T4:Int)/65536)=(T5:Int)from q4];obtain⟨T6,q5,a5,b5⟩:=HS.out T5 (T5/65536/65536) a4 b4 (Nat.le_trans (Nat.div_le_self _ _) (Nat.div_le_self _ _));rw[show Go.bits .or .u64 (T5:Int) ((T5:Int)/65536/65536)=(T6:Int)from q5];refine(HLen.out T6 _ a5 b5).mono ?_;rintro e w1 ⟨rfl,rfl⟩;clear q0 q1 q2 q3 q4 q5 a0 a1 a2 a3 a4 a5 b0 b1 b2 b3 b4 b5 e1
 go_wp2_with fail
 go_ret
 exact⟨by rw[HE.out];rfl,HB.out⟩
theorem intBitLen_is(base x K:Nat)(n:Int)(s:Nat→Option Int)(w:World)(hS:St base w s)(hx:Arg base w s x n)(h1:2^K≤n.natAbs)(h2:n.natAbs<2^(K+1))(hK:K<6000):
 Calls Tryz.prog 58 #[.pointer (some ⟨x,0,none⟩)] w fun e w'=>e= .returned (.int .i64 ((K+1:Nat):Int))∧Below w.heap.size w w':=by
 obtain⟨_,own,hO⟩:=hS;obtain⟨v,r,hB,hR,_⟩:=hO.arg (rz:=none) (z:=0) (fun g e=>by cases e) hx;obtain⟨A,c,rfl⟩:=hR.slice;have HQ:=ak (natBitLen_is _ r n.natAbs K w hR h1 h2 hK);have HB:=ak hB;obtain⟨l,hl⟩: ∃l,(L64.lim n.natAbs).length=l:=⟨_,rfl⟩
 obtain⟨sg,hsg⟩: ∃sg,decide (n<0)=sg:=⟨_,rfl⟩
 rw[hl]at HB HQ;rw[hsg]at HB;obtain⟨c0,zc0,c1,zc1⟩:=rf2 HB.out;clear hR hO hx h1 h2 hK hl hB hsg
 go_enter Tryz.func58,Tryz.ntmps58
 go_wp2_with fail
 refine HQ.out.mono ?_;rintro e w1 ⟨rfl,hb⟩;have HB1:=ak hb;clear hb
 go_wp2_with fail
 go_ret
 exact⟨rfl,HB1.out⟩
theorem lim_one{a:Nat}(h0:0<a)(h1:a<18446744073709551616):L64.lim a= [(a:Int)]:=by
 rw[L64.lim_pos (by omega),Nat.mod_eq_of_lt h1,Nat.div_eq_of_lt h1,L64.lim_zero]
set_option maxRecDepth 100000 in
theorem low64_is(v:Value)(r:Option Nat)(a:Nat)(w:World)(hx:Opd w v r (L64.lim a))(h0:0<a)(h1:a<18446744073709551616):
 Calls Tryz.prog 85 #[v] w fun e w'=>e= .returned (.int .u64 (a:Int))∧Below w.heap.size w w':=by
 have HB:=ak (Below.refl w.heap.size w);rw[lim_one h0 h1]at hx;obtain⟨p,c,rfl,_,hR,_,_,_⟩:=hx.open_ (by simp);have hc0:w.cell? ⟨p,0,none⟩=some (.int .u64 (a:Int)):=hR.2 0 (by simp);change Calls Tryz.prog 85 #[.slice (some ⟨p,0,none⟩) 1 c] _ _
 clear hx h0 h1 hR
 go_enter Tryz.func85,Tryz.ntmps85
 go_wp2_with fail
 go_ret
 exact⟨rfl,HB.out⟩
theorem intUint64_is(base x:Nat)(n:Nat)(s:Nat→Option Int)(w:World)(hS:St base w s)(hx:Arg base w s x (n:Int))(h0:0<n)(h1:n<18446744073709551616):
 Calls Tryz.prog 62 #[.pointer (some ⟨x,0,none⟩)] w fun e w'=>e= .returned (.int .u64 (n:Int))∧Below w.heap.size w w':=by
 obtain⟨_,own,hO⟩:=hS;obtain⟨v,r,hB,hR,_⟩:=hO.arg (rz:=none) (z:=0) (fun g e=>by cases e) hx;rw[Int.natAbs_natCast]at hR;obtain⟨A,c,rfl⟩:=hR.slice;have HQ:=ak (low64_is _ r n w hR h0 h1);have HB:=ak hB;obtain⟨l,hl⟩: ∃l,(L64.lim n).length=l:=⟨_,rfl⟩
 obtain⟨sg,hsg⟩: ∃sg,decide ((n:Int)<0)=sg:=⟨_,rfl⟩
 rw[hl]at HB;rw[hl]at HQ;rw[hsg]at HB;obtain⟨c0,zc0,c1,zc1⟩:=rf2 HB.out;clear hR hO hx h1 h0 hl hB hsg
 go_enter Tryz.func62,Tryz.ntmps62
 go_wp2_with fail
 refine HQ.out.mono ?_;rintro e w1 ⟨rfl,hb⟩;have HB1:=ak hb;clear hb
 go_wp2_with fail
 go_ret
 exact⟨rfl,HB1.out⟩
theorem keep2{w w1:World}{a b:Addr}{u v:Value}(hb:Below w.heap.size w w1)(h:w.cell? a=some u∧w.cell? b=some v):w1.cell? a=some u∧w1.cell? b=some v:=
 ⟨(hb.cell (World.block_lt_of_cell? w a h.1)).trans h.1,(hb.cell (World.block_lt_of_cell? w b h.2)).trans h.2⟩
set_option maxRecDepth 100000 in
theorem intCmp_is(base x y:Nat)(a b:Nat)(s:Nat→Option Int)(w:World)(hS:St base w s)(hx:Arg base w s x (a:Int))(hy:Arg base w s y (b:Int))(hne:x≠y)(ha:(L64.lim a).length≤900):
 Calls Tryz.prog 16 #[.pointer (some ⟨x,0,none⟩),.pointer (some ⟨y,0,none⟩)] w fun e w'=>e= .returned (.int .i64 (cmpN a b))∧Below w.heap.size w w':=by
 obtain⟨_,own,hO⟩:=hS;obtain⟨v,r,hB,hR,_⟩:=hO.arg (rz:=none) (z:=0) (fun g e=>by cases e) hx;obtain⟨v',r',hB',hR',_⟩:=hO.arg (rz:=none) (z:=0) (fun g e=>by cases e) hy;rw[Int.natAbs_natCast]at hR hR';rw[decide_eq_false (show¬((a:Int)<0) by omega)]at hB;rw[decide_eq_false (show¬((b:Int)<0) by omega)]at hB';obtain⟨A,c,rfl⟩:=hR.slice;obtain⟨A',c',rfl⟩:=hR'.slice;have HQ:=ak (fun w1 (hb:Below w.heap.size w w1)=>natCmp_is _ _ r r' a b w1 (hR.below hb) (hR'.below hb) ha);have HW:=ak (Below.refl w.heap.size w);have HB:=ak hB;have HB':=ak hB';obtain⟨l,hl⟩: ∃l,(L64.lim a).length=l:=⟨_,rfl⟩
 obtain⟨l',hl'⟩: ∃l',(L64.lim b).length=l':=⟨_,rfl⟩
 obtain⟨q,hq⟩: ∃q,cmpN a b=q:=⟨_,rfl⟩
 rw[hl]at HB;rw[hl']at HB';rw[hl,hl',hq]at HQ;rw[hq];have hq2:(binOp .eql 48 (.pointer (some ⟨x,0,none⟩)) (.pointer (some ⟨y,0,none⟩))).run Tryz.prog w= .ok (.bool false) w:=by
  obtain⟨j,hj,hj2⟩:=infoI;exact run_eql_ptr_other w Tryz.underlying48 hj hj2 (fun h=>hne (congrArg Addr.block h)) HB.out HB'.out
 obtain⟨c0,zc0,c1,zc1⟩:=rf2 HB.out;obtain⟨d0,zd0,d1,zd1⟩:=rf2 HB'.out;clear hR hO hx hR' hy ha hl hl' hB hB' hq
 go_enter Tryz.func16,Tryz.ntmps16
 go_wp2_with fail
 clear hq2
 go_region_held3 (fun w'=>w'.cell? ⟨x,0,none⟩=some (.bool false)∧w'.cell? ⟨y,0,none⟩=some (.bool false)) (first|exact⟨c0,d0⟩|go_keep) (fail)
 go_wp2_with fail
 have d1':w.drew.cell? ⟨x,1,none⟩=some (.slice A l c):=c1;have d2':w.drew.cell? ⟨y,1,none⟩=some (.slice A' l' c'):=d1;have HW1:=ak (below_drew (below_drew HW.out))
 go_region_held3 (fun w'=>w'.cell? ⟨x,1,none⟩=some (.slice A l c)∧w'.cell? ⟨y,1,none⟩=some (.slice A' l' c')) (first|exact⟨d1',d2'⟩|go_keep|(refine keep2 hb4 ?_;assumption))
  (first|(go_at_call 38;refine(HQ.out _ HW1.out).mono ?_;rintro e4 w4 ⟨rfl,hb4⟩;have HB4:=ak (below_step HW1.out hb4);have X4:=ak (blk_below (blk_drew (blk_drew HB.out)) hb4)))
 obtain⟨u0,zu0,u1,zu1⟩:=rf2 X4.out
 go_wp2_with fail
 go_ret
 exact⟨rfl,HB4.out⟩
end Go.Proofs.YthlakefgobflnaaGreatDoor.G
