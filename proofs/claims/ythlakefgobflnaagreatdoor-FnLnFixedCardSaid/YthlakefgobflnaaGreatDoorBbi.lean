/- FLOATS: what the model's operations give, and math.Log from 1 to 2, roughly. FLOATS: words that are scaled by powers of two, and whole numbers as words. CONTRACTS: Abs, IsInf, IsNaN, Ldexp of words that are not below the normal ones. -/
import Derived.Test.YthlakefgobflnaaGreatDoorBbh
import GoSem.Extern.MathLog
import Derived.Test.YthlakefgobflnaaGreatDoorBaq
import Derived.Laws.BitsAllLaws
namespace Go.Proofs.YthlakefgobflnaaGreatDoor.An
open Ieee
set_option linter.unusedVariables false
theorem V_D{w:Nat}{v:Rat}(h:V w v):D (double.read w) v:=h
theorem write_D{q:Datum}{v:Rat}{c:Int}(h:D q v)(hc: -1000≤c)(hc2:c≤1000)(h1: -(p2 c)<v)(h2:v<p2 c): ∃v',V (double.write q) v'∧Ab (v'-v) (p2 (c-54)):=by
 obtain⟨s,m,e,rfl,rfl⟩:=h;have hm:(m:Rat)*p2 e<p2 c:=by
  rw[sg_rat]at h1 h2;cases s
  ·simp only[Bool.false_eq_true,if_false]at h2;exact h2
  ·simp only[if_true]at h1
   grind
 exact nearest_near s m e c hc hc2 hm
def dl:Rat:=1/1000000000
theorem p2_52:p2 (2-54)≤dl/2:=by
 have e:((2^52:Nat):Rat)*p2 (2-54)=1:=by
  rw[←p2_nat,←p2_add];exact p2_zero
 have e2:((2^52:Nat):Rat)=4503599627370496:=rfl;unfold dl
 grind
theorem p2_two:p2 2=4:=by
 have:p2 ((2:Nat):Int)=((2^2:Nat):Rat):=p2_nat 2;exact this
theorem opW{q:Datum}{v:Rat}(h:D q v)(hb:Ab v 3): ∃v',V (double.write q) v'∧Ab (v'-v) (dl/2):=by
 obtain⟨a,b⟩:=hb;have h4:=p2_two;obtain⟨v',h1,h2⟩:=write_D (c:=2) h (by omega) (by omega) (by grind) (by grind);exact⟨v',h1,h2.le p2_52⟩
section
variable {P : Program} {w : World}
open Go.Extern
theorem run_arith{op:BinOp}{x y r:Nat}(h:floatBits op .f64 x y=some r):(MathAsm.arith op x y).run P w= .ok r w:=by
 unfold floatBits at h;cases op<;>simp only at h<;>first|(cases h;done)|skip
 all_goals simp[MathAsm.arith,Op.floatArith,h]
end
def Op2(op:BinOp)(x y r:Nat)(v e:Rat):Prop:=floatBits op .f64 x y=some r∧V r v∧Ab (v-e) dl
theorem dl_pos:0<dl:=by unfold dl;grind
theorem addW{x y:Nat}{a b:Rat}(h:V x a)(h':V y b)(hb:Ab (a+b) 3): ∃r v,Op2 .add x y r v (a+b):=by
 obtain⟨q,h1,h2⟩:=sum_D (V_D h) (V_D h');obtain⟨v,h3,h4⟩:=opW h2 hb;refine⟨_,v,?_,h3,h4.le (by have:=dl_pos;grind)⟩;show((double.read x).sum (double.read y)).map double.write=_;rw[h1];rfl
theorem subW{x y:Nat}{a b:Rat}(h:V x a)(h':V y b)(hb:Ab (a-b) 3): ∃r v,Op2 .sub x y r v (a-b):=by
 obtain⟨q,h1,h2⟩:=sum_D (V_D h) (opp_D (V_D h'));rw[show a+ -b=a-b by grind]at h2;obtain⟨v,h3,h4⟩:=opW h2 hb;refine⟨_,v,?_,h3,h4.le (by have:=dl_pos;grind)⟩;show((double.read x).sum (double.read y).opposite).map double.write=_;rw[h1];rfl
theorem mulW{x y:Nat}{a b:Rat}(h:V x a)(h':V y b)(hb:Ab (a*b) 3): ∃r v,Op2 .mul x y r v (a*b):=by
 obtain⟨q,h1,h2⟩:=prod_D (V_D h) (V_D h');obtain⟨v,h3,h4⟩:=opW h2 hb;refine⟨_,v,?_,h3,h4.le (by have:=dl_pos;grind)⟩;show((double.read x).product (double.read y)).map double.write=_;rw[h1];rfl
theorem divW{x y:Nat}{a b:Rat}(h:V x a)(h':V y b)(hb0:b≠0)(hb:Ab (a/b) 2): ∃r v,Op2 .quo x y r v (a/b):=by
 obtain⟨q,v0,h1,h2,h5⟩:=quot_D (V_D h) (V_D h') hb0 hb;have h6:2*p2 (-54)≤dl/2:=by
  have:=p2_52;have e:p2 (2+ -54)=p2 2*p2 (-54):=p2_add 2 (-54);rw[show(2:Int)+ -54=2-54 from rfl]at e;rw[p2_two]at e;have:=p2_pos (-54)
  grind
 have hd:dl/2≤1:=by unfold dl;grind
 obtain⟨v,h3,h4⟩:=opW h2 (by obtain⟨a,b⟩:=h5;obtain⟨c,d⟩:=hb;constructor<;>grind);refine⟨_,v,?_,h3,?_⟩
 ·show((double.read x).quotient (double.fractionBits+2) (double.read y)).map double.write=_;rw[show double.fractionBits+2=54 from rfl,h1];rfl
 ·obtain⟨a1,b1⟩:=h5;obtain⟨c1,d1⟩:=h4;constructor<;>grind
theorem ltW{x y:Nat}{a b:Rat}(h:V x a)(h':V y b):Extern.MathAsm.lt x y=decide (a<b):=by
 obtain⟨s,m,e,h1,rfl⟩:=h;obtain⟨t,n,f,h2,rfl⟩:=h';have hx: ∀(s:Bool) (m:Nat) (e base:Int),base≤e→(sg s m:Rat)*p2 e=((Ieee.signed s m (e-base).toNat:Int):Rat)*p2 base:=fun s m e base hle=>by
  rw[signed_rat,Rat.mul_assoc,←p2_add]
  congr 2
  omega
 rw[hx s m e (min e f) (by omega),hx t n f (min e f) (by omega)];unfold Extern.MathAsm.lt;show(((double.read x).order (double.read y))==some .lt)=_;rw[h1,h2];show(some (compare (Ieee.signed s m (e-min e f).toNat) (Ieee.signed t n (f-min e f).toNat))==some Ordering.lt)=_;generalize Ieee.signed s m (e-min e f).toNat=A;generalize Ieee.signed t n (f-min e f).toNat=B;have hp:=p2_pos (min e f);have hiff:((A:Rat)*p2 (min e f)<(B:Rat)*p2 (min e f))↔A<B:=by
  constructor
  ·intro h;have:=Rat.lt_of_mul_lt_mul_right h (Rat.le_of_lt hp)
   exact_mod_cast this
  ·intro h;exact Rat.mul_lt_mul_of_pos_right (by exact_mod_cast h) hp
 have h3:compare A B=Ordering.lt↔A<B:=Int.compare_eq_lt;by_cases hlt:A<B
 ·have:=h3.2 hlt;rw[this,decide_eq_true (hiff.2 hlt)];rfl
 ·have:compare A B≠Ordering.lt:=fun hc=>hlt (h3.1 hc)
  have h4:decide ((A:Rat)*p2 (min e f)<(B:Rat)*p2 (min e f))=false:=decide_eq_false (fun hc=>hlt (hiff.1 hc));rw[h4];cases hc:compare A B
  ·exact absurd hc this
  ·rfl
  ·rfl
theorem V_inj{w:Nat}{a b:Rat}(h:V w a)(h':V w b):a=b:=by
 obtain⟨s,m,e,h1,rfl⟩:=h;obtain⟨t,n,f,h2,rfl⟩:=h';rw[h1]at h2;cases h2;rfl
theorem nearest_big(s:Bool)(m:Nat)(e c:Int)(hc: -900≤c)(h1:p2 c≤(m:Rat)*p2 e)(h2:(m:Rat)*p2 e<p2 900)(v:Rat)(hv:V (double.nearest s m e) v):if s then v≤ -(p2 (c-1))else p2 (c-1)≤v:=by
 have hpe:=p2_pos e;have hpc:=p2_pos c;have hm:m≠0:=by
  rintro rfl;have e0:((0:Nat):Rat)=0:=rfl;rw[e0]at h1
  grind
 have hlog1:2^m.log2≤m:=Nat.log2_self_le hm;have hlog2:m<2^(m.log2+1):=Nat.lt_log2_self;generalize m.log2=l at*;have hr1:((2^l:Nat):Rat)≤(m:Rat):=by exact_mod_cast hlog1
 have hr2:(m:Rat)<((2^(l+1):Nat):Rat):=by exact_mod_cast hlog2
 rw[←p2_nat]at hr1 hr2;have k1:=Rat.mul_le_mul_of_nonneg_right hr1 (Rat.le_of_lt hpe);have k2:=Rat.mul_lt_mul_of_pos_right hr2 hpe;rw[←p2_add]at k1 k2;have hlo:c<((l+1:Nat):Int)+e:=p2_lt (by grind);have hhi:(l:Int)+e<900:=p2_lt (by grind);obtain⟨v',h3,h4⟩:=nearest_near s m e (((l+1:Nat):Int)+e) (by omega) (by omega) k2;have h5:=V_inj hv h3;subst h5;have hsm:p2 (((l+1:Nat):Int)+e-54)≤1/2*p2 ((l:Int)+e):=by
  have:p2 (((l+1:Nat):Int)+e-54+1)≤p2 ((l:Int)+e):=p2_mono (by omega);rw[p2_succ]at this
  grind
 have hcc:p2 c=2*p2 (c-1):=by
  have:=p2_succ (c-1);rw[show c-1+1=c by omega]at this;exact this
 rw[sg_rat]at h4;obtain⟨a,b⟩:=h4;cases s
 ·simp only[Bool.false_eq_true,if_false]at a b⊢
  grind
 ·simp only[if_true]at a b⊢
  grind
theorem write_big{q:Datum}{v v':Rat}{c:Int}(h:D q v)(hc: -900≤c)(h1:p2 c≤v∨v≤ -(p2 c))(h2:Ab v 4)(hv:V (double.write q) v'):p2 (c-1)≤v'∨v'≤ -(p2 (c-1)):=by
 obtain⟨s,m,e,rfl,rfl⟩:=h;have h900:(4:Rat)<p2 900:=by
  have e0:p2 3≤p2 900:=p2_mono (by omega);have e1:p2 3=2*p2 2:=p2_succ 2;rw[p2_two]at e1
  grind
 have hp:=p2_pos c;have hm0:0≤(m:Rat)*p2 e:=Rat.mul_nonneg (by exact_mod_cast Nat.zero_le m) (Rat.le_of_lt (p2_pos e));rw[sg_rat]at h1 h2;obtain⟨a,b⟩:=h2;have fin:=fun a b=>nearest_big s m e c hc a b v' hv
 suffices hs:(if s then v'≤ -(p2 (c-1))else p2 (c-1)≤v') by
  cases s
  ·exact .inl hs
  ·exact .inr hs
 refine fin ?_ ?_
 ·cases s
  ·simp only[Bool.false_eq_true,if_false]at h1;rcases h1 with h1|h1<;>grind
  ·simp only[if_true]at h1;rcases h1 with h1|h1<;>grind
 ·cases s
  ·simp only[Bool.false_eq_true,if_false]at b
   grind
  ·simp only[if_true]at a
   grind
theorem write_pos{q:Datum}{v v':Rat}{c:Int}(h:D q v)(hc: -900≤c)(h1:p2 c≤v)(h2:Ab v 4)(hv:V (double.write q) v'):p2 (c-1)≤v':=by
 obtain⟨s,m,e,rfl,rfl⟩:=h;have h900:(4:Rat)<p2 900:=by
  have e0:p2 3≤p2 900:=p2_mono (by omega);have e1:p2 3=2*p2 2:=p2_succ 2;rw[p2_two]at e1
  grind
 have hp:=p2_pos c;have hm0:0≤(m:Rat)*p2 e:=Rat.mul_nonneg (by exact_mod_cast Nat.zero_le m) (Rat.le_of_lt (p2_pos e));rw[sg_rat]at h1 h2;obtain⟨a,b⟩:=h2;cases s
 ·simp only[Bool.false_eq_true,if_false]at b h1;have:=nearest_big false m e c hc (by grind) (by grind) v' hv
  simpa using this
 ·simp only[if_true]at h1
  grind
theorem write_zero{q:Datum}{v':Rat}(h:D q 0)(hv:V (double.write q) v'):v'=0:=by
 obtain⟨s,m,e,rfl,h0⟩:=h;have hm:m=0:=by
  have hp:=p2_pos e;rw[sg_rat]at h0;have:(m:Rat)*p2 e=0:=by cases s<;>grind
  have h1:(m:Rat)=((0:Nat):Rat):=by
   have e0:((0:Nat):Rat)=0:=rfl;rw[e0];rcases Rat.mul_eq_zero.1 this with h|h
   ·exact h
   ·grind
  exact_mod_cast h1
 subst hm;have:double.nearest s 0 e=double.word s 0:=by
  unfold Format.nearest;rw[if_pos rfl]
 exact V_inj hv (by show V (double.nearest s 0 e) 0;rw[this];exact V_zero s)
theorem V_unit{w:Nat}{v:Rat}(h:V w v)(hb:p2 (-60)≤v∨v≤ -(p2 (-60))): ∃z:Int,v=(z:Rat)*p2 (-200):=by
 obtain⟨s,m,e,h1,rfl⟩:=h;have hm:m<2^53:=by
  have e1:double.binade=4503599627370496:=by decide
  have e2:(2:Nat)^53=9007199254740992:=by decide
  rw[e2];unfold Format.read at h1;rw[e1]at h1;dsimp only at h1
  split at h1
  ·cases h1;omega
  ·split at h1
   ·cases h1;omega
   ·split at h1<;>cases h1
 have hm0:0≤(m:Rat)*p2 e:=Rat.mul_nonneg (by exact_mod_cast Nat.zero_le m) (Rat.le_of_lt (p2_pos e));have hp:=p2_pos (-60);have he: -200≤e:=by
  have h3:p2 (-60)≤(m:Rat)*p2 e:=by
   rw[sg_rat]at hb;cases s
   ·simp only[Bool.false_eq_true,if_false]at hb;rcases hb with h|h<;>grind
   ·simp only[if_true]at hb;rcases hb with h|h<;>grind
  have h4:(m:Rat)<((2^53:Nat):Rat):=by exact_mod_cast hm
  rw[←p2_nat]at h4;have h5:=Rat.mul_lt_mul_of_pos_right h4 (p2_pos e);rw[←p2_add]at h5;have:(-60:Int)<((53:Nat):Int)+e:=p2_lt (by grind);omega
 refine⟨sg s m*((2^(e+200).toNat:Nat):Int),?_⟩;rw[Rat.intCast_mul,Rat.intCast_natCast,←p2_nat,Rat.mul_assoc,←p2_add]
 congr 2
 omega
theorem gap{x y:Nat}{a b:Rat}(hx:V x a)(hy:V y b)(hb:p2 (-54)≤b):a-b=0∨p2 (-200)≤a-b∨a-b≤ -(p2 (-200)):=by
 have h60:p2 (-54)=64*p2 (-60):=by
  have e:p2 (((6:Nat):Int)+ -60)=p2 ((6:Nat):Int)*p2 (-60):=p2_add _ _;rw[p2_nat]at e;exact e
 have h200:p2 (-200)≤p2 (-60):=p2_mono (by omega);have hp:=p2_pos (-60);have hp2:=p2_pos (-200);obtain⟨z,hz⟩:=V_unit hy (.inl (by grind));rcases rlt a (p2 (-60))with h|h
 ·right;right
  grind
 ·obtain⟨z',hz'⟩:=V_unit hx (.inl h);have e:a-b=((z'-z:Int):Rat)*p2 (-200):=by rw[Rat.intCast_sub,hz,hz'];grind
  rw[e];rcases Int.lt_trichotomy (z'-z) 0 with h'|h'|h'
  ·right;right;have h3:((z'-z:Int):Rat)≤((-1:Int):Rat):=by exact_mod_cast (show z'-z≤ -1 by omega)
   have h4:=Rat.mul_le_mul_of_nonneg_right h3 (Rat.le_of_lt hp2);have e1:((-1:Int):Rat)= -1:=rfl;rw[e1]at h4
   grind
  ·left;rw[h'];have e1:((0:Int):Rat)=0:=rfl;rw[e1]
   grind
  ·right;left;have h3:((1:Int):Rat)≤((z'-z:Int):Rat):=by exact_mod_cast (show 1≤z'-z by omega)
   have h4:=Rat.mul_le_mul_of_nonneg_right h3 (Rat.le_of_lt hp2);have e1:((1:Int):Rat)=1:=rfl;rw[e1]at h4
   grind
end Go.Proofs.YthlakefgobflnaaGreatDoor.An
namespace Go.Proofs.YthlakefgobflnaaGreatDoor.An
open Go.RowKit Ieee
set_option linter.unusedVariables false
theorem read_nrm(s:Bool)(r:Nat)(h1:4503599627370496≤r)(h2:r<9218868437227405312):double.read (double.word s r)= .number s (4503599627370496+r%4503599627370496) (-1074+(r/4503599627370496-1:Nat)):=by
 have hl:double.leastPlace= -1074:=by decide
 have hb:double.binade=4503599627370496:=by decide
 have hs:double.signWeight=9223372036854775808:=by decide
 have hi:double.infRung=9218868437227405312:=by decide
 unfold Format.read Format.word;rw[hl,hb,hs,hi];cases s
 ·have e1:r/9223372036854775808%2=0:=by omega
  have e2:r%9223372036854775808=r:=by omega
  simp only[Bool.false_eq_true,if_false,e1,e2];rw[if_neg (by omega),if_pos h2];rfl
 ·have e1:(9223372036854775808+r)/9223372036854775808%2=1:=by omega
  have e2:(9223372036854775808+r)%9223372036854775808=r:=by omega
  simp only[if_true,e1,e2];rw[if_neg (by omega),if_pos h2];rfl
theorem cut_exact(s:Bool)(m d:Nat):Toward.even.cut s (m*2^d) d=m:=by
 obtain⟨h1,h2⟩:=cut_near s (m*2^d) d;have hp:=Nat.two_pow_pos d;generalize Toward.even.cut s (m*2^d) d=c at*;generalize 2^d=P at*;rcases Nat.lt_trichotomy c m with h|h|h
 ·have:=Nat.mul_le_mul_right P (show c+1≤m from h);rw[Nat.add_mul,Nat.one_mul]at this;omega
 ·exact h
 ·have:=Nat.mul_le_mul_right P (show m+1≤c from h);rw[Nat.add_mul,Nat.one_mul]at this;omega
theorem log2_of{n k:Nat}(h1:2^k≤n)(h2:n<2^(k+1)):n.log2=k:=by
 have h0:n≠0:=by have:=Nat.two_pow_pos k;omega
 have a:=(Nat.le_log2 h0).2 h1;have b:=(Nat.log2_lt h0).2 h2;omega
theorem prod_num(s t:Bool)(a b:Nat)(i j:Int):(Datum.number s a i).product (.number t b j)=some (.number (s^^t) (a*b) (i+j)):=rfl
theorem write_num(s:Bool)(a:Nat)(i:Int):double.write (.number s a i)=double.nearest s a i:=rfl
theorem nearest_exact(s:Bool)(k f:Nat)(hf2:f<4503599627370496)(hk:k<2046):double.nearest s (4503599627370496*(4503599627370496+f)) (-52+(-1074+(k:Int)))=double.word s (k*4503599627370496+(4503599627370496+f)):=by
 have hl:double.leastPlace= -1074:=by decide
 have hf:double.fractionBits=52:=rfl;have hb:double.binade=4503599627370496:=by decide
 have hi:double.infRung=9218868437227405312:=by decide
 have hlog:(4503599627370496*(4503599627370496+f)).log2=104:=by
  have a1:(2:Nat)^104=20282409603651670423947251286016:=by decide
  have a2:(2:Nat)^105=40564819207303340847894502572032:=by decide
  exact log2_of (by rw[a1];omega) (by rw[a2];omega)
 have ec:Toward.even.cut s (4503599627370496*(4503599627370496+f)) 52=4503599627370496+f:=by
  have h:=cut_exact s (4503599627370496+f) 52;rw[show(2:Nat)^52=4503599627370496 from rfl,Nat.mul_comm]at h;exact h
 have e0:4503599627370496*(4503599627370496+f)≠0:=by omega
 generalize 4503599627370496*(4503599627370496+f)=M at*;unfold Format.nearest;rw[if_neg e0,hl,hf,hlog,hb,hi];have e2:max (-52+(-1074+(k:Int))+((104:Nat):Int)-((52:Nat):Int)) (-1074)= -1074+(k:Int):=by omega
 have e3:(-52+(-1074+(k:Int))-(-1074+(k:Int))).toNat=0:=by omega
 have e4:(-1074+(k:Int)-(-52+(-1074+(k:Int)))).toNat=52:=by omega
 have e5:(-1074+(k:Int)- -1074).toNat=k:=by omega
 dsimp only;rw[e2,e3,e4,e5,Nat.shiftLeft_zero,ec,Nat.min_eq_left (by omega)]
theorem one_mul_word(s:Bool)(r:Nat)(h1:4503599627370496≤r)(h2:r<9218868437227405312):double.mul 4607182418800017408 (double.word s r)=some (double.word s r):=by
 have e1:double.read 4607182418800017408= .number false 4503599627370496 (-52):=by decide
 have h:=nearest_exact s (r/4503599627370496-1) (r%4503599627370496) (by omega) (by omega);unfold Format.mul;rw[e1,read_nrm s r h1 h2,prod_num,Option.map_some,write_num,Bool.false_xor,h];rw[show(r/4503599627370496-1)*4503599627370496+(4503599627370496+r%4503599627370496)=r by omega]
theorem word60(n:Nat)(h1:576460752303423488≤n)(h2:n<1152921504606846976): ∃t,t≤4503599627370496∧double.write (.number false n 0)=4872894796814876672+t∧n≤576460752303423488+128*t+64∧576460752303423488+128*t≤n+64:=by
 have hl:double.leastPlace= -1074:=by decide
 have hf:double.fractionBits=52:=rfl;have hb:double.binade=4503599627370496:=by decide
 have hi:double.infRung=9218868437227405312:=by decide
 have hlog:n.log2=59:=log2_of (k:=59) h1 h2;obtain⟨c1,c2⟩:=cut_near false n 7;show∃t,t≤4503599627370496∧double.nearest false n 0=_∧_
 unfold Format.nearest;rw[if_neg (by omega),hl,hf,hlog,hb,hi];dsimp only;have e2:max ((0:Int)+(59:Nat)-(52:Nat)) (-1074)=7:=by omega
 rw[e2];have e3:((0:Int)-7).toNat=0:=by decide
 have e4:((7:Int)-0).toNat=7:=by decide
 have e5:((7:Int)- -1074).toNat=1081:=by decide
 rw[e3,e4,e5,Nat.shiftLeft_zero];generalize Toward.even.cut false n 7=c at*;rw[show(2:Nat)^7=128 from rfl]at c1 c2;refine⟨c-4503599627370496,by omega,?_,by omega,by omega⟩;unfold Format.word;rw[if_neg (by decide)];omega
theorem ord_num(s t:Bool)(a b:Nat)(i j:Int):(Datum.number s a i).order (.number t b j)=some (compare (Ieee.signed s a (i-min i j).toNat) (Ieee.signed t b (j-min i j).toNat)):=rfl
theorem some_beq(a b:Ordering):((some a)==(some b))=(a==b):=by cases a<;>cases b<;>rfl
theorem signed_pos(m k:Nat):Ieee.signed false m k=((m*2^k:Nat):Int):=by
 unfold Ieee.signed;rw[if_neg (by decide),Nat.shiftLeft_eq]
theorem signed_ne(s:Bool)(m k:Nat)(hm:0<m):Ieee.signed s m k≠0:=by
 have h:0<m*2^k:=Nat.mul_pos hm (Nat.two_pow_pos k);unfold Ieee.signed;rw[Nat.shiftLeft_eq];cases s
 ·rw[if_neg (by decide)];omega
 ·rw[if_pos rfl];omega
theorem ord_zero(s:Bool)(r:Nat)(h1:4503599627370496≤r)(h2:r<9218868437227405312):(double.order (double.word s r) 0==some .eq)=false:=by
 have e0:double.read 0= .number false 0 (-1074):=by decide
 unfold Format.order;rw[read_nrm s r h1 h2,e0,ord_num,some_beq];generalize (-1074+((r/4503599627370496-1:Nat):Int))=e;generalize hm:4503599627370496+r%4503599627370496=m;have h3:=signed_ne s m (e-min e (-1074)).toNat (by omega);rw[signed_pos 0,Nat.zero_mul];generalize Ieee.signed s m (e-min e (-1074)).toNat=q at*;refine beq_eq_false_iff_ne.2 (fun h=>h3 ?_);exact Int.compare_eq_eq.1 h
theorem ord_max(r:Nat)(h1:4503599627370496≤r)(h2:r<9218868437227405312):(double.order (double.word false r) 9218868437227405311==some .gt)=false:=by
 have e0:double.read 9218868437227405311= .number false 9007199254740991 971:=by decide
 unfold Format.order;rw[read_nrm false r h1 h2,e0,ord_num,some_beq];obtain⟨k,hk⟩: ∃k,r/4503599627370496-1=k:=⟨_,rfl⟩
 obtain⟨f,hf⟩: ∃f,r%4503599627370496=f:=⟨_,rfl⟩
 rw[hk,hf];have hk2:k≤2045:=by omega
 have hf2:f<4503599627370496:=by omega
 have e1:min (-1074+(k:Int)) 971= -1074+(k:Int):=by omega
 have e2:(-1074+(k:Int)-(-1074+(k:Int))).toNat=0:=by omega
 rw[e1,e2,signed_pos,signed_pos,Nat.pow_zero,Nat.mul_one];have h3:=Nat.mul_le_mul_left 9007199254740991 (Nat.two_pow_pos (971-(-1074+(k:Int))).toNat);generalize 2^(971-(-1074+(k:Int))).toNat=P at*;refine beq_eq_false_iff_ne.2 (fun h=>?_);have:=Int.compare_eq_gt.1 h;omega
theorem ord_min(r:Nat)(h1:4503599627370496≤r)(h2:r<9218868437227405312):(double.order (double.word false r) 4503599627370496==some .lt)=false:=by
 have e0:double.read 4503599627370496= .number false 4503599627370496 (-1074):=by decide
 unfold Format.order;rw[read_nrm false r h1 h2,e0,ord_num,some_beq];obtain⟨k,hk⟩: ∃k,r/4503599627370496-1=k:=⟨_,rfl⟩
 obtain⟨f,hf⟩: ∃f,r%4503599627370496=f:=⟨_,rfl⟩
 rw[hk,hf];have e1:min (-1074+(k:Int)) (-1074)= -1074:=by omega
 have e2:(-1074-(-1074):Int).toNat=0:=by omega
 rw[e1,e2,signed_pos,signed_pos,Nat.pow_zero,Nat.mul_one];have h3:=Nat.mul_le_mul_left (4503599627370496+f) (Nat.two_pow_pos (-1074+(k:Int)- -1074).toNat);generalize 2^(-1074+(k:Int)- -1074).toNat=P at*;refine beq_eq_false_iff_ne.2 (fun h=>?_);have:=Int.compare_eq_lt.1 h;omega
theorem ord_self(s:Bool)(r:Nat)(h1:4503599627370496≤r)(h2:r<9218868437227405312):(double.order (double.word s r) (double.word s r) != some .eq)=false:=by
 unfold Format.order;rw[read_nrm s r h1 h2,ord_num];rw[Int.compare_eq_eq.2 rfl];rfl
end Go.Proofs.YthlakefgobflnaaGreatDoor.An
namespace Go.Proofs.YthlakefgobflnaaGreatDoor.G
open Go.RowKit Go.Proofs.YthlakefgobflnaaGreatDoorW.PrintWords Go.Proofs.YthlakefgobflnaaGreatDoorW.PrintLast Go.Proofs.YthlakefgobflnaaGreatDoorW.PrintMore Go.Proofs.YthlakefgobflnaaGreatDoor.S
set_option linter.unusedVariables false
set_option linter.unusedSimpArgs false
theorem bits_at(x:Nat)(w:World):(callFunc 99 #[.float .f64 x]).run Tryz.prog w= .ok (.value (.int .u64 (x:Int))) w:=by
 rw[run_callFunc_extern (P:=Tryz.prog) Tryz.func99 (by kernel_rfl) (by kernel_rfl) (by kernel_rfl) (e:=Extern.MathFloatBits.float64bits) (by kernel_rfl) #[.float .f64 x] w];rfl
theorem from_at(x:Nat)(w:World):(callFunc 102 #[.int .u64 (x:Int)]).run Tryz.prog w= .ok (.value (.float .f64 x)) w:=by
 rw[run_callFunc_extern (P:=Tryz.prog) Tryz.func102 (by kernel_rfl) (by kernel_rfl) (by kernel_rfl) (e:=Extern.MathFloatBits.float64frombits) (by kernel_rfl) #[.int .u64 (x:Int)] w];rfl
theorem andNot_sign(s:Bool)(r:Nat)(h:r<9223372036854775808):Go.bits .andNot .u64 ((Ieee.double.word s r:Nat):Int) 9223372036854775808=(r:Int):=by
 have hs:Ieee.double.signWeight=9223372036854775808:=by decide
 have hw:Ieee.double.word s r<18446744073709551616:=by
  unfold Ieee.Format.word;rw[hs]
  split<;>omega
 have h1:=u64_andNot_nat (Ieee.double.word s r) 9223372036854775808 hw (by omega);rw[show((9223372036854775808:Nat):Int)=9223372036854775808 from rfl]at h1;rw[h1,show(18446744073709551615-9223372036854775808:Nat)=2^63-1 from rfl,Nat.and_two_pow_sub_one_eq_mod]
 congr 1
 unfold Ieee.Format.word;rw[hs]
 split
 ·show(9223372036854775808+r)%9223372036854775808=r;omega
 ·exact Nat.mod_eq_of_lt h
set_option maxRecDepth 100000 in
theorem abs_is(s:Bool)(r:Nat)(w:World)(h:r<9223372036854775808):
 Calls Tryz.prog 120 #[.float .f64 (Ieee.double.word s r)] w fun e w'=>e= .returned (.float .f64 r)∧w'=w:=by
 have q:=andNot_sign s r h;generalize Ieee.double.word s r=x at*;have f1:=bits_at x w;have f2:=from_at r w;clear h
 go_enter Tryz.func120,Tryz.ntmps120
 go_wp2_with fail
 go_ret
 exact⟨rfl,rfl⟩
set_option maxRecDepth 100000 in
theorem isInf_is(s:Bool)(r:Nat)(w:World)(h1:4503599627370496≤r)(h2:r<9218868437227405312):
 Calls Tryz.prog 96 #[.float .f64 (Ieee.double.word s r),.int .i64 0] w fun e w'=>e= .returned (.bool false)∧w'=w:=by
 have HA:=ak (fun w0=>abs_is s r w0 (by omega));have q:(FloatKind.f64.format.order r 9218868437227405311==some .gt)=false:=An.ord_max r h1 h2;generalize Ieee.double.word s r=x at*;clear h1 h2
 go_enter Tryz.func96,Tryz.ntmps96
 go_wp2_with fail
 refine(HA.out _).mono ?_;rintro e w1 ⟨rfl,rfl⟩
 go_wp2_with fail
 go_ret
 exact⟨rfl,rfl⟩
set_option maxRecDepth 100000 in
theorem isNaN_is(s:Bool)(r:Nat)(w:World)(h1:4503599627370496≤r)(h2:r<9218868437227405312):
 Calls Tryz.prog 97 #[.float .f64 (Ieee.double.word s r)] w fun e w'=>e= .returned (.bool false)∧w'=w:=by
 have q:(FloatKind.f64.format.order (Ieee.double.word s r) (Ieee.double.word s r) != some .eq)=false:=An.ord_self s r h1 h2;generalize Ieee.double.word s r=x at*;clear h1 h2
 go_enter Tryz.func97,Tryz.ntmps97
 go_wp2_with fail
 go_ret
 exact⟨rfl,rfl⟩
set_option maxRecDepth 100000 in
theorem normalize_is(s:Bool)(r:Nat)(w:World)(h1:4503599627370496≤r)(h2:r<9218868437227405312):
 Calls Tryz.prog 98 #[.float .f64 (Ieee.double.word s r)] w fun e w'=>e= .returned (.tuple #[.float .f64 (Ieee.double.word s r),.int .i64 0])∧w'=w:=by
 have HA:=ak (fun w0=>abs_is s r w0 (by omega));have q:(FloatKind.f64.format.order r 4503599627370496==some .lt)=false:=An.ord_min r h1 h2;generalize Ieee.double.word s r=x at*;clear h1 h2
 go_enter Tryz.func98,Tryz.ntmps98
 go_wp2_with fail
 refine(HA.out _).mono ?_;rintro e w1 ⟨rfl,rfl⟩
 go_wp2_with fail
 go_ret2
 exact⟨rfl,rfl⟩
theorem word_parts(s:Bool)(r:Nat):Ieee.double.word s r=r+s.toNat*2^63:=by
 have hs:Ieee.double.signWeight=9223372036854775808:=by decide
 unfold Ieee.Format.word;rw[hs];cases s
 ·show r=r+0*2^63;omega
 ·show 9223372036854775808+r=r+1*2^63;omega
theorem and_top(z b:Nat)(hz:z<2^63)(hb:b≤1):(z+b*2^63)&&&2^63=b*2^63:=by
 have hz2:z.testBit 63=false:=Nat.testBit_lt_two_pow hz;rcases Nat.le_one_iff_eq_zero_or_eq_one.1 hb with rfl|rfl
 ·rw[Nat.zero_mul,Nat.add_zero];refine Nat.eq_of_testBit_eq fun i=>?_
  rw[Nat.testBit_and,Nat.testBit_two_pow,Nat.zero_testBit];by_cases h:63=i
  ·subst h;rw[hz2];rfl
  ·rw[decide_eq_false h,Bool.and_false]
 ·rw[Nat.one_mul,Nat.add_comm];refine Nat.eq_of_testBit_eq fun i=>?_
  rw[Nat.testBit_and,Nat.testBit_two_pow];by_cases h:63=i
  ·subst h;rw[Nat.testBit_two_pow_add_eq,hz2];rfl
  ·rw[decide_eq_false h,Bool.and_false]
theorem andNot_exp(b E f:Nat)(hE:E<2048)(hf:f<4503599627370496)(hb:b≤1):Go.bits .andNot .u64 ((E*4503599627370496+f+b*2^63:Nat):Int) 9218868437227405312=((f+b*2^63:Nat):Int):=by
 have h1:=u64_andNot_nat (E*4503599627370496+f+b*2^63) 9218868437227405312 (by omega) (by omega);rw[show((9218868437227405312:Nat):Int)=9218868437227405312 from rfl]at h1;rw[h1]
 congr 1
 rw[show(18446744073709551615-9218868437227405312:Nat)=(2^52-1)|||2^63 by decide,Nat.and_or_distrib_left,Nat.and_two_pow_sub_one_eq_mod,and_top _ b (by omega) hb];have e1:(E*4503599627370496+f+b*2^63)%2^52=f:=by omega
 rw[e1];exact Lm.or_nat f b 63 (by omega)
theorem or_exp(b E f:Nat)(hE:E<2048)(hf:f<4503599627370496)(hb:b≤1):Go.bits .or .u64 ((f+b*2^63:Nat):Int) ((E*4503599627370496:Nat):Int)=((E*4503599627370496+f+b*2^63:Nat):Int):=by
 rw[bits_or_u64_nat _ _ (by omega) (by omega)]
 congr 1
 rw[←Lm.or_nat f b 63 (by omega),Nat.or_assoc,Nat.or_comm (b*2^63),←Nat.or_assoc,show E*4503599627370496=E*2^52 from rfl,Lm.or_nat f E 52 hf];rw[Lm.or_nat (f+E*2^52) b 63 (by omega)];omega
theorem i64_and2047(n:Int):Go.bits .and .i64 n 2047=n%2048:=by
 have h:(BitVec.ofInt 64 2047).toNat=2^11-1:=by decide
 have key:(BitVec.ofInt 64 n&&&BitVec.ofInt 64 2047).toNat=(n%((2^64:Nat):Int)).toNat%2^11:=by
  rw[BitVec.toNat_and,BitVec.toNat_ofInt,h,Nat.and_two_pow_sub_one_eq_mod]
 show IntKind.i64.wrap ((BitVec.ofInt 64 n&&&BitVec.ofInt 64 2047).toNat:Nat)=n%2048;rw[key,IntKind.wrap_i64];omega
set_option maxRecDepth 100000 in
theorem ldexp_is(s:Bool)(E f E' r r':Nat)(k:Int)(w:World)(h1:0<E)(h2:E<2047)(hf:f<4503599627370496)(hE:(E:Int)+k=(E':Int))(h3:0<E')(h4:E'<2047)(hr:E*4503599627370496+f=r)(hr':E'*4503599627370496+f=r'):
 Calls Tryz.prog 82 #[.float .f64 (Ieee.double.word s r),.int .i64 k] w fun e w'=>e= .returned (.float .f64 (Ieee.double.word s r'))∧w'=w:=by
 have HI:=ak (fun w0=>isInf_is s r w0 (by omega) (by omega));have HN:=ak (fun w0=>isNaN_is s r w0 (by omega) (by omega));have HZ:=ak (fun w0=>normalize_is s r w0 (by omega) (by omega));have q0:(FloatKind.f64.format.order (Ieee.double.word s r) 0==some .eq)=false:=An.ord_zero s r (by omega) (by omega);have HD:=ak (And.intro h1 (And.intro h2 (And.intro hf (And.intro hE (And.intro h3 (And.intro h4 (And.intro hr hr')))))));clear h1 h2 hf hE h3 h4 hr hr';obtain⟨x,hx⟩: ∃x,Ieee.double.word s r=x:=⟨_,rfl⟩
 obtain⟨y,hy⟩: ∃y,Ieee.double.word s r'=y:=⟨_,rfl⟩
 rw[hx]at HI HN HZ q0⊢;rw[hy];have HY:=ak (And.intro hx hy);clear hx hy;have hb:s.toNat≤1:=by cases s<;>decide
 have hp:=word_parts s r;have hp':=word_parts s r';rw[HY.out.1]at hp;rw[HY.out.2]at hp';obtain⟨b,hb'⟩: ∃b,s.toNat=b:=⟨_,rfl⟩
 rw[hb']at hb hp hp';clear hb';obtain⟨h1,h2,hf,hE,h3,h4,rfl,rfl⟩:=HD.out;obtain⟨kk,hkk⟩: ∃kk,wrap64 k=kk:=⟨_,rfl⟩
 have hk1:kk=k:=by rw[←hkk,Lm.w64 (by omega) (by omega)]
 obtain⟨t1,ht1⟩: ∃t1,wrap64 ((x:Int)/4503599627370496)=t1:=⟨_,rfl⟩
 have ht1':t1=(E:Int)+2048*(b:Int):=by rw[←ht1,Lm.w64 (by omega) (by omega)];omega
 obtain⟨e1,he1⟩: ∃e1,Go.bits .and .i64 t1 2047=e1:=⟨_,rfl⟩
 have he1':e1=(E:Int):=by rw[←he1,i64_and2047];omega
 obtain⟨e2,he2⟩: ∃e2,wrap64 (e1-1023)=e2:=⟨_,rfl⟩
 have he2':e2=(E:Int)-1023:=by rw[←he2,Lm.w64 (by omega) (by omega)];omega
 obtain⟨e3,he3⟩: ∃e3,wrap64 (kk+e2)=e3:=⟨_,rfl⟩
 have he3':e3=(E':Int)-1023:=by rw[←he3,Lm.w64 (by omega) (by omega)];omega
 have c1:decide (e3< -1075)=false:=decide_eq_false (by omega);have c1': ¬(e3< -1075):=by omega
 have c2:decide (1023<e3)=false:=decide_eq_false (by omega);have c2': ¬(1023<e3):=by omega
 have c3:decide (e3< -1022)=false:=decide_eq_false (by omega);have c3': ¬(e3< -1022):=by omega
 obtain⟨u,hu⟩: ∃u,Go.bits .andNot .u64 (x:Int) 9218868437227405312=u:=⟨_,rfl⟩
 have hu':u=((f+b*2^63:Nat):Int):=by rw[←hu,hp];exact andNot_exp b E f (by omega) hf hb
 have ho:Go.bits .or .u64 u ((e3+1023)*4503599627370496)=(y:Int):=by
  rw[hu',hp',show(e3+1023)*4503599627370496=((E'*4503599627370496:Nat):Int) by omega];exact or_exp b E' f (by omega) hf hb
 have F2:=ak (from_at y);have q1:Ieee.double.mul 4607182418800017408 y=some y:=by
  rw[←HY.out.2];exact An.one_mul_word s _ (by omega) (by omega)
 clear hb hp hp' h1 h2 hf hE h3 h4 hk1 ht1' he1' he2' he3' hu'
 go_enter Tryz.func82,Tryz.ntmps82
 go_wp2_with fail
 refine(HI.out _).mono ?_;rintro e w1 ⟨rfl,rfl⟩
 go_wp2_with fail
 refine(HN.out _).mono ?_;rintro e w1 ⟨rfl,rfl⟩
 go_wp2_with fail
 refine(HZ.out _).mono ?_;rintro e w1 ⟨rfl,rfl⟩;have f1:=bits_at x w1;have f2:=F2.out w1;have q2:(binOp .mul 102 (.float .f64 4607182418800017408) (.float .f64 y)).run Tryz.prog w1= .ok (.float .f64 y) w1:=by
  simp[binOp,Op.floatArith,FloatKind.format,q1]
 go_wp2_with fail
 go_ret
 exact⟨rfl,rfl⟩
set_option maxRecDepth 100000 in
theorem ldexp0_is(x:Nat)(k:Int)(w:World)(h:(Ieee.double.order x 0==some .eq)=true):
 Calls Tryz.prog 82 #[.float .f64 x,.int .i64 k] w fun e w'=>e= .returned (.float .f64 x)∧w'=w:=by
 have q0:(FloatKind.f64.format.order x 0==some .eq)=true:=h;clear h
 go_enter Tryz.func82,Tryz.ntmps82
 go_wp2_with fail
 go_ret
 exact⟨rfl,rfl⟩
set_option maxRecDepth 100000 in
theorem Ldexp_of(x y:Nat)(k:Int)(w:World)(h:Calls Tryz.prog 82 #[.float .f64 x,.int .i64 k] w fun e w'=>e= .returned (.float .f64 y)∧w'=w):
 Calls Tryz.prog 60 #[.float .f64 x,.int .i64 k] w fun e w'=>e= .returned (.float .f64 y)∧w'=w:=by
 have HQ:=ak h;clear h
 go_enter Tryz.func60,Tryz.ntmps60
 go_wp2_with fail
 refine HQ.out.mono ?_;rintro e w1 ⟨rfl,rfl⟩
 go_wp2_with fail
 go_ret
 exact⟨rfl,rfl⟩
set_option maxRecDepth 100000 in
theorem Log_is(x r:Nat)(w:World)(h: ∀(P:Program) (w:World),(Extern.MathLog.archLog #[.float .f64 x]).run P w= .ok (.float .f64 r) w):
 Calls Tryz.prog 61 #[.float .f64 x] w fun e w'=>e= .returned (.float .f64 r)∧w'=w:=by
 have f1:(callFunc 83 #[.float .f64 x]).run Tryz.prog w= .ok (.value (.float .f64 r)) w:=by
  rw[run_callFunc_extern (P:=Tryz.prog) Tryz.func83 (by kernel_rfl) (by kernel_rfl) (by kernel_rfl) (e:=Extern.MathLog.archLog) (by kernel_rfl) #[.float .f64 x] w,h];rfl
 clear h
 go_enter Tryz.func61,Tryz.ntmps61
 go_wp2_with fail
 go_ret
 exact⟨rfl,rfl⟩
set_option maxRecDepth 100000 in
theorem Sqrt_is(x r:Nat)(w:World)(h:Ieee.double.sqrt x=some r):
 Calls Tryz.prog 86 #[.float .f64 x] w fun e w'=>e= .returned (.float .f64 r)∧w'=w:=by
 have f1:(callFunc 105 #[.float .f64 x]).run Tryz.prog w= .ok (.value (.float .f64 r)) w:=by
  rw[run_callFunc_extern (P:=Tryz.prog) Tryz.func105 (by kernel_rfl) (by kernel_rfl) (by kernel_rfl) (e:=Extern.MathSqrt.sqrt) (by kernel_rfl) #[.float .f64 x] w];have e:(Extern.MathSqrt.sqrt #[.float .f64 x]).run Tryz.prog w= .ok (.float .f64 r) w:=by
   show Sem.run Tryz.prog (match Ieee.double.sqrt x with|some r=>pure (Value.float .f64 r)|none=>do pure (Value.float .f64 (←choose (.nanBits .f64 x x)))) w=_;rw[h];rfl
  rw[e];rfl
 clear h
 go_enter Tryz.func86,Tryz.ntmps86
 go_wp2_with fail
 go_ret
 exact⟨rfl,rfl⟩
end Go.Proofs.YthlakefgobflnaaGreatDoor.G
