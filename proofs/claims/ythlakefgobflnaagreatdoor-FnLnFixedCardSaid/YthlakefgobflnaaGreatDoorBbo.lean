/- FLOATS: the square roots that expFixed takes. WHAT expFixed's WALK ASKS OF ITS ARGUMENT. CONTRACTS: expFixed, with nothing left to ask. FLOATS: math.Log from 1 to 2, roughly: the sum behind the reduction. FLOATS: math.Log from 1 to 2: its run and its certificates. FLOATS: math.Log from 1 to 2: its certificates. -/
import Derived.Test.YthlakefgobflnaaGreatDoorBbi
import Derived.Test.YthlakefgobflnaaGreatDoorBbn
import Derived.Laws.FloatArith
import Derived.Laws.Cover2
import Derived.Lib.ItoaNum
import Derived.Test.YthlakefgobflnaaGreatDoorBak
namespace Go.Proofs.YthlakefgobflnaaGreatDoor.G
open Go.RowKit Go.Proofs.YthlakefgobflnaaGreatDoorW.PrintWords Go.Proofs.YthlakefgobflnaaGreatDoorW.PrintLast Go.Proofs.YthlakefgobflnaaGreatDoorW.PrintMore Go.Proofs.YthlakefgobflnaaGreatDoor.S
set_option linter.unusedVariables false
set_option linter.unusedSimpArgs false
def rootOf(b:Nat):Option (Nat×Int):=(Ieee.double.sqrt (floatOfInt .f64 (b:Int))).bind fun r=>(floatToIntVal .f64 r .u64).map fun q=>(r,q)
def rootOk(b:Nat):Bool:=match rootOf b with|some (_,q)=>decide (4≤q)&&decide (q≤14)|none=>false
theorem rootOk_all: ∀b,b<201→20≤b→rootOk b=true:=by decide+kernel
theorem root_is(b:Nat)(h1:20≤b)(h2:b≤200): ∃f1 f2 j,floatOfInt .f64 (b:Int)=f1∧Ieee.double.sqrt f1=some f2∧floatToIntVal .f64 f2 .u64=some ((j-1:Nat):Int)∧5≤j∧j≤15:=by
 have h:=rootOk_all b (by omega) h1;unfold rootOk at h;cases hr:rootOf b with
 |none=>rw[hr]at h;cases h
 |some p=>
  obtain⟨f2,q⟩:=p;rw[hr]at h;simp only[Bool.and_eq_true,decide_eq_true_eq]at h;unfold rootOf at hr;obtain⟨r,h3,h4⟩:=Option.bind_eq_some_iff.1 hr;obtain⟨q',h5,h6⟩:=Option.map_eq_some_iff.1 h4;cases h6;exact⟨_,f2,q.toNat+1,rfl,h3,by rw[h5];congr 1;omega,by omega,by omega⟩
theorem root_runs(b:Nat)(h1:20≤b)(h2:b≤200): ∃f1 f2 j,5≤j∧j≤15∧
 (∀w,(convert 22 102 (.int .u64 (b:Int))).run Tryz.prog w= .ok (.float .f64 f1) w)∧
 (∀w,Calls Tryz.prog 86 #[.float .f64 f1] w fun e w'=>e= .returned (.float .f64 f2)∧Below w.heap.size w w')∧
 (∀w,(convert 102 22 (.float .f64 f2)).run Tryz.prog w= .ok (.int .u64 ((j-1:Nat):Int)) w):=by
 obtain⟨f1,f2,j,e1,e2,e3,h3,h4⟩:=root_is b h1 h2;refine⟨f1,f2,j,h3,h4,fun w=>?_,fun w=>?_,fun w=>?_⟩
 ·rw[run_convert_int_float w 22 102 .u64 .f64 (b:Int) (by kernel_rfl) (by kernel_rfl),e1]
 ·refine(Sqrt_is f1 f2 w e2).mono ?_;rintro e w' ⟨rfl,rfl⟩;exact⟨rfl,Below.refl _ _⟩
 ·exact run_convert_float_int w 102 22 .f64 .u64 f2 _ (by kernel_rfl) (by kernel_rfl) e3
end Go.Proofs.YthlakefgobflnaaGreatDoor.G
namespace Go.Proofs.YthlakefgobflnaaGreatDoor.An
open Go Go.Proofs
set_option linter.unusedVariables false
theorem exp_pre(x:Int)(b j L g:Nat)(hb:20≤b)(hb2:b≤200)(hj:5≤j)(hj2:j≤15)(hL:Lib.bitLen (33*(b+j+64)+363)=L)(hg:b+j+L+2=g)(hx:Ab (x:Rat) (3/4*((2^b:Nat):Rat))):
 ∃n,n<254∧L≤20∧x.natAbs≤2^b∧16*(x*((2^(g-b):Nat):Int)/((2^j:Nat):Int)).natAbs≤2^g∧
  ext (x*((2^(g-b):Nat):Int)/((2^j:Nat):Int)) g (n+1)=0∧(∀k,k≤n→ext (x*((2^(g-b):Nat):Int)/((2^j:Nat):Int)) g k≠0)∧
  16*2^j*(7*(n+1)+1)*2^b≤2^g∧
  ∀i,i≤j→(sqs (exs (x*((2^(g-b):Nat):Int)/((2^j:Nat):Int)) g n) g i).natAbs≤4*2^g:=by
 have hM:33*(b+j+64)+363<2^64:=by omega
 obtain⟨_,hl1,hl2⟩:=Lib.bitLenAux_bounds 64 (33*(b+j+64)+363) hM (by omega);have hLe:Lib.bitLenAux 64 (33*(b+j+64)+363)=L:=hL;rw[hLe]at hl1 hl2;have hL13:L≤14:=by
  rcases Nat.lt_or_ge L 15 with h|h
  ·omega
  ·have:2^14≤2^(L-1):=Nat.pow_le_pow_right (by omega) (by omega);omega
 have hB:=pow2_pos b;have hxn:x.natAbs≤2^b:=by
  obtain⟨h1,h2⟩:=hx;have hBr:=npos hB;have h3:(x:Rat)≤(((2^b:Nat):Int):Rat):=by rw[Rat.intCast_natCast];grind
  have h4:((-((2^b:Nat):Int):Int):Rat)≤(x:Rat):=by rw[Rat.intCast_neg,Rat.intCast_natCast];grind
  have h5:x≤((2^b:Nat):Int):=by exact_mod_cast h3
  have h6: -((2^b:Nat):Int)≤x:=by exact_mod_cast h4
  generalize (2^b:Nat)=B at*;omega
 have hgb:2^b*2^(g-b)=2^g:=by rw[←Nat.pow_add];congr 1;omega
 have hj32:32≤2^j:=Nat.pow_le_pow_right (show 0<2 by omega) hj;have hg32:1024≤2^g:=Nat.pow_le_pow_right (show 0<2 by omega) (show 10≤g by omega);have hX:16*(x*((2^(g-b):Nat):Int)/((2^j:Nat):Int)).natAbs≤2^g:=by
  have h1:(x*((2^(g-b):Nat):Int)).natAbs≤2^g:=by
   rw[Int.natAbs_mul,←hgb];exact Nat.mul_le_mul_right _ hxn
  generalize x*((2^(g-b):Nat):Int)=m at*;generalize 2^g=G at*;generalize 2^j=J at*;have e1:=Int.mul_ediv_add_emod m (J:Int);have e2:=Int.emod_lt_of_pos m (show(0:Int)<(J:Int) by omega);have e3:=Int.emod_nonneg m (show(J:Int)≠0 by omega);generalize m/(J:Int)=q at*;generalize m%(J:Int)=r at*;have e4:((J:Int)*q).natAbs=J*q.natAbs:=by rw[Int.natAbs_mul];rfl
  rcases Nat.eq_zero_or_pos q.natAbs with h|h
  ·omega
  ·have e5:32*q.natAbs≤J*q.natAbs:=Nat.mul_le_mul_right _ hj32;have e6:J*1≤J*q.natAbs:=Nat.mul_le_mul_left _ h;have e7:J*q.natAbs≤G+J:=by omega
   have e8:J*q.natAbs=J*(q.natAbs-1)+J:=by
    have:q.natAbs=q.natAbs-1+1:=by omega
    rw[this,Nat.mul_add,Nat.mul_one];simp
   have e9:32*(q.natAbs-1)≤J*(q.natAbs-1):=Nat.mul_le_mul_right _ hj32;omega
 obtain⟨n,hn,hn0,hne⟩:=ext_end _ g (by omega) hX;have hD:16*2^j*(7*(n+1)+1)*2^b≤2^g:=by
  have e:2^g=4*2^L*2^j*2^b:=by
   rw[←hg,Nat.pow_add,Nat.pow_add,Nat.pow_add];generalize 2^b=p;generalize 2^j=q;generalize 2^L=r;show p*q*r*4=4*r*q*p
   ac_rfl
  rw[e];refine Nat.mul_le_mul_right _ ?_;rw[show 16*2^j*(7*(n+1)+1)=16*(7*(n+1)+1)*2^j by ac_rfl];refine Nat.mul_le_mul_right _ ?_;omega
 have hA:=exp_all x b g j n (by omega) (by omega) (by omega) hx hj hD hn0;refine⟨n,by omega,by omega,hxn,hX,hn0,hne,hD,fun i hi=>?_⟩;obtain⟨h1,h2⟩:=hA.2.2.2 i hi;generalize sqs (exs (x*((2^(g-b):Nat):Int)/((2^j:Nat):Int)) g n) g i=q at*;have h3:(q:Rat)<((4*((2^g:Nat):Int):Int):Rat):=by
  rw[Rat.intCast_mul,Rat.intCast_natCast];exact h2
 have h4:q<4*((2^g:Nat):Int):=by exact_mod_cast h3
 generalize (2^g:Nat)=G at*;omega
end Go.Proofs.YthlakefgobflnaaGreatDoor.An
namespace Go.Proofs.YthlakefgobflnaaGreatDoor.G
open Go.RowKit Go.Proofs.YthlakefgobflnaaGreatDoorW.PrintWords Go.Proofs.YthlakefgobflnaaGreatDoorW.PrintLast Go.Proofs.YthlakefgobflnaaGreatDoorW.PrintMore Go.Proofs.YthlakefgobflnaaGreatDoor.S
set_option linter.unusedVariables false
set_option linter.unusedSimpArgs false
def ExpNums(b g j n:Nat)(X:Int):Prop:=b≤g∧5≤j∧16*2^j*(7*(n+1)+1)*2^b≤2^g∧An.ext (X*((2^(g-b):Nat):Int)/((2^j:Nat):Int)) g (n+1)=0∧g≤250∧(An.sqs (An.exs (X*((2^(g-b):Nat):Int)/((2^j:Nat):Int)) g n) g j/((2^(g-b):Nat):Int)).natAbs≤2^(2+g)
theorem expFixed_run(b:Nat)(X:Int)(hb:20≤b)(hb2:b≤200)(hX:An.Ab (X:Rat) (3/4*((2^b:Nat):Rat))): ∃g j n,ExpNums b g j n X∧
 ∀(base x:Nat) (s:Nat→Option Int) (w:World),St base w s→Arg base w s x X→Thr w→3<base→
 Calls Tryz.prog 63 #[.pointer (some ⟨x,0,none⟩),.int .u64 (b:Int)] w fun e w'=>∃h s',e= .returned (.tuple #[.pointer (some ⟨h,0,none⟩),.int .i64 2])∧w.heap.size≤h∧St base w' s'∧
  s' h=some (An.sqs (An.exs (X*((2^(g-b):Nat):Int)/((2^j:Nat):Int)) g n) g j/((2^(g-b):Nat):Int))∧Kp s s'∧Below base w w':=by
 obtain⟨f1,f2,j,hj,hj2,hc1,hsq,hc2⟩:=root_runs b hb hb2;obtain⟨n,h1,h2,h3,h4,h5,h6,h7,h8⟩:=An.exp_pre X b j _ _ hb hb2 hj hj2 rfl rfl hX;refine⟨_,j,n,⟨by omega,hj,h7,h5,by omega,Nat.le_trans (Int.natAbs_ediv_le_natAbs _ _) (by rw[Nat.pow_add];exact h8 j (Nat.le_refl j))⟩,fun base x s w hS hx ht hb3=>?_⟩;exact expFixed_is base x b j _ n _ X _ s w f1 f2 hS hx ht hb3 hc1 hsq hc2 (by omega) (by omega) (by omega) rfl h2 rfl (by omega) h3 rfl h4 h1 h5 h6 h8
end Go.Proofs.YthlakefgobflnaaGreatDoor.G
namespace Go.Proofs.YthlakefgobflnaaGreatDoor.An
open Ieee
set_option linter.unusedVariables false
theorem V_const(w m n:Nat)(h:double.read w= .number false m (-(n:Int))):V w ((m:Rat)/((2^n:Nat):Rat)):=by
 refine⟨_,_,_,h,?_⟩;have e:p2 (-(n:Int))*((2^n:Nat):Rat)=1:=by
  rw[←p2_nat,←p2_add];have: -(n:Int)+(n:Int)=0:=by omega
  rw[this];exact p2_zero
 have hp:(0:Rat)<((2^n:Nat):Rat):=by exact_mod_cast (show 0<2^n from Nat.pow_pos (by omega))
 rw[sg_rat];simp only[Bool.false_eq_true,if_false]
 grind
theorem V_range(w m n:Nat)(h:double.read w= .number false m (-(n:Int)))(a b:Rat)(ha:a*((2^n:Nat):Rat)≤(m:Rat))(hb:(m:Rat)≤b*((2^n:Nat):Rat)): ∃v,V w v∧a≤v∧v≤b:=by
 have hp:(0:Rat)<((2^n:Nat):Rat):=by exact_mod_cast (show 0<2^n from Nat.pow_pos (by omega))
 refine⟨_,V_const w m n h,?_,?_⟩
 ·exact le_div hp ha
 ·exact div_le hp hb
theorem c_L7: ∃v,V 0x3FC2F112DF3E5244 v∧(0:Rat)≤v∧v≤3/20:=V_range _ 5331612937900612 55 (by decide) _ _ (by decide+kernel) (by decide+kernel)
theorem c_L5: ∃v,V 0x3FC7466496CB03DE v∧(0:Rat)≤v∧v≤1/5:=V_range _ 6551322304906206 55 (by decide) _ _ (by decide+kernel) (by decide+kernel)
theorem c_L3: ∃v,V 0x3FD2492494229359 v∧(0:Rat)≤v∧v≤3/10:=V_range _ 5146971033736025 54 (by decide) _ _ (by decide+kernel) (by decide+kernel)
theorem c_L1: ∃v,V 0x3FE5555555555593 v∧(33/50:Rat)≤v∧v≤667/1000:=V_range _ 6004799503160723 53 (by decide) _ _ (by decide+kernel) (by decide+kernel)
theorem c_L6: ∃v,V 0x3FC39A09D078C69F v∧(0:Rat)≤v∧v≤1/5:=V_range _ 5517391500461727 55 (by decide) _ _ (by decide+kernel) (by decide+kernel)
theorem c_L4: ∃v,V 0x3FCC71C51D8E78AF v∧(0:Rat)≤v∧v≤1/4:=V_range _ 8006390766270639 55 (by decide) _ _ (by decide+kernel) (by decide+kernel)
theorem c_L2: ∃v,V 0x3FD999999997FA04 v∧(0:Rat)≤v∧v≤41/100:=V_range _ 7205759403686404 54 (by decide) _ _ (by decide+kernel) (by decide+kernel)
theorem c_Lo: ∃v,V 0x3DEA39EF35793C76 v∧(0:Rat)≤v∧v≤1/1000000000:=V_range _ 7382048951581814 85 (by decide) _ _ (by decide+kernel) (by decide+kernel)
theorem c_Hi: ∃v,V 0x3FE62E42FEE00000 v∧(6931/10000:Rat)≤v∧v≤6932/10000:=V_range _ 6243314766446592 53 (by decide) _ _ (by decide+kernel) (by decide+kernel)
theorem c_sq: ∃v,V 0x3FE6A09E667F3BCD v∧(7071/10000:Rat)≤v∧v≤70711/100000:=V_range _ 6369051672525773 53 (by decide) _ _ (by decide+kernel) (by decide+kernel)
theorem c_half:V 0x3FE0000000000000 (1/2):=by
 have h:=V_const 0x3FE0000000000000 4503599627370496 53 (by decide);rw[show((4503599627370496:Nat):Rat)/((2^53:Nat):Rat)=1/2 by decide+kernel]at h;exact h
theorem c_one:V 0x3FF0000000000000 (1):=by
 have h:=V_const 0x3FF0000000000000 4503599627370496 52 (by decide);rw[show((4503599627370496:Nat):Rat)/((2^52:Nat):Rat)=1 by decide+kernel]at h;exact h
theorem c_two:V 0x4000000000000000 (2):=by
 have h:=V_const 0x4000000000000000 4503599627370496 51 (by decide);rw[show((4503599627370496:Nat):Rat)/((2^51:Nat):Rat)=2 by decide+kernel]at h;exact h
theorem c_zero:V 0 0:=V_zero false
theorem abE{v e t t':Rat}(h:Ab (v-e) dl)(h':Ab e t)(ht:t+dl≤t'):Ab v t':=by
 obtain⟨a,b⟩:=h;obtain⟨c,d⟩:=h';constructor<;>grind
theorem mulA{x y:Nat}{a b A B:Rat}(t:Rat)(h:V x a)(h':V y b)(ha:Ab a A)(hb:Ab b B)(h3:A*B≤3)(ht:A*B+dl≤t): ∃r v,floatBits .mul .f64 x y=some r∧V r v∧Ab v t:=by
 obtain⟨r,v,h1,h2,h4⟩:=mulW h h' ((ha.mul hb).le h3);exact⟨r,v,h1,h2,abE h4 (ha.mul hb) ht⟩
theorem addA{x y:Nat}{a b A B:Rat}(t:Rat)(h:V x a)(h':V y b)(ha:Ab a A)(hb:Ab b B)(h3:A+B≤3)(ht:A+B+dl≤t): ∃r v,floatBits .add .f64 x y=some r∧V r v∧Ab v t:=by
 obtain⟨r,v,h1,h2,h4⟩:=addW h h' ((ha.add hb).le h3);exact⟨r,v,h1,h2,abE h4 (ha.add hb) ht⟩
theorem sub_big{x y r:Nat}{a b v:Rat}{c:Int}(h:V x a)(h':V y b)(hc: -900≤c)(hb:Ab (a-b) 4)(hop:floatBits .sub .f64 x y=some r)(hv:V r v)(hh:a-b=0∨p2 c≤a-b∨a-b≤ -(p2 c)):v=0∨p2 (c-1)≤v∨v≤ -(p2 (c-1)):=by
 obtain⟨q,h1,h2⟩:=sum_D (V_D h) (opp_D (V_D h'));rw[show a+ -b=a-b by grind]at h2;have e:floatBits .sub .f64 x y=some (double.write q):=by
  show((double.read x).sum (double.read y).opposite).map double.write=_;rw[h1];rfl
 rw[e]at hop;cases hop;rcases hh with h0|h0
 ·rw[h0]at h2;exact .inl (write_zero h2 hv)
 ·exact .inr (write_big h2 hc h0 hb hv)
theorem mul_zero{x y r:Nat}{a b v:Rat}(h:V x a)(h':V y b)(h0:a*b=0)(hop:floatBits .mul .f64 x y=some r)(hv:V r v):v=0:=by
 obtain⟨q,h1,h2⟩:=prod_D (V_D h) (V_D h');have e:floatBits .mul .f64 x y=some (double.write q):=by
  show((double.read x).product (double.read y)).map double.write=_;rw[h1];rfl
 rw[e]at hop;cases hop;rw[h0]at h2;exact write_zero h2 hv
theorem ab0{v b:Rat}(h0:0≤v)(h1:v≤b):Ab v b:=⟨by grind,h1⟩
theorem s_ab{f tf:Rat}(hf: -(293/1000)≤f)(hf2:f≤4143/10000)(ht:Ab (tf-(2+f)) dl):0<tf∧Ab (f/tf) (859/5000):=by
 obtain⟨a,b⟩:=ht;have hd:dl≤1/100000:=by decide+kernel
 have hp:0<tf:=by grind
 exact⟨hp,le_div hp (by grind),div_le hp (by grind)⟩
set_option maxHeartbeats 1000000 in
theorem log_core(f k:Nat)(vf vk:Rat)(hf:V f vf)(hk:V k vk)(h1: -(293/1000)≤vf)(h2:vf≤4143/10000)(hk01:vk=0∨vk=1):
 ∃tf s s2 s4 a1 a2 a3 a4 a5 a6 t1 b1 b2 b3 b4 t2 R h0 hq rh sr lo inner hi e d r vr,
  floatBits .add .f64 0x4000000000000000 f=some tf∧floatBits .quo .f64 f tf=some s∧floatBits .mul .f64 s s=some s2∧floatBits .mul .f64 s2 s2=some s4∧
  floatBits .mul .f64 0x3FC2F112DF3E5244 s4=some a1∧floatBits .add .f64 a1 0x3FC7466496CB03DE=some a2∧floatBits .mul .f64 a2 s4=some a3∧floatBits .add .f64 a3 0x3FD2492494229359=some a4∧floatBits .mul .f64 a4 s4=some a5∧floatBits .add .f64 a5 0x3FE5555555555593=some a6∧floatBits .mul .f64 s2 a6=some t1∧
  floatBits .mul .f64 0x3FC39A09D078C69F s4=some b1∧floatBits .add .f64 b1 0x3FCC71C51D8E78AF=some b2∧floatBits .mul .f64 b2 s4=some b3∧floatBits .add .f64 b3 0x3FD999999997FA04=some b4∧floatBits .mul .f64 s4 b4=some t2∧
  floatBits .add .f64 t1 t2=some R∧floatBits .mul .f64 0x3FE0000000000000 f=some h0∧floatBits .mul .f64 h0 f=some hq∧floatBits .add .f64 R hq=some rh∧floatBits .mul .f64 s rh=some sr∧floatBits .mul .f64 0x3DEA39EF35793C76 k=some lo∧floatBits .add .f64 sr lo=some inner∧
  floatBits .mul .f64 k 0x3FE62E42FEE00000=some hi∧floatBits .sub .f64 hq inner=some e∧floatBits .sub .f64 e f=some d∧floatBits .sub .f64 hi d=some r∧
  V r vr∧Ab (vr-(vk*(6931/10000)+vf-1/2*(vf*vf))) (19/1000)∧(vk=0→p2 (-54)≤vf→vr=0∨p2 (-202)≤vr∨vr≤ -(p2 (-202))):=by
 have hfa:Ab vf (4143/10000):=⟨by grind,h2⟩;have hka:Ab vk 1:=by rcases hk01 with h|h<;>rw[h]<;>constructor<;>decide+kernel
 obtain⟨tf,vtf,otf,Vtf,ntf⟩:=addW c_two hf (by constructor<;>grind);obtain⟨ptf,hs⟩:=s_ab h1 h2 ntf;obtain⟨s,vs,os,Vs,ns⟩:=divW hf Vtf (by grind) (hs.le (by decide+kernel));have aS:=abE (t':=1718001/10000000) ns hs (by decide+kernel);obtain⟨s2,vs2,os2,Vs2,as2⟩:=mulA (2952/100000) Vs Vs aS aS (by decide+kernel) (by decide+kernel);obtain⟨s4,vs4,os4,Vs4,as4⟩:=mulA (872/1000000) Vs2 Vs2 as2 as2 (by decide+kernel) (by decide+kernel);obtain⟨L7,V7,l7,u7⟩:=c_L7;obtain⟨L5,V5,l5,u5⟩:=c_L5;obtain⟨L3,V3,l3,u3⟩:=c_L3;obtain⟨L1,V1,l1,u1⟩:=c_L1;obtain⟨L6,V6,l6,u6⟩:=c_L6;obtain⟨L4,V4,l4,u4⟩:=c_L4;obtain⟨L2,V2,l2,u2⟩:=c_L2;obtain⟨Lo,VLo,lLo,uLo⟩:=c_Lo;obtain⟨Hi,VHi,lHi,uHi⟩:=c_Hi;obtain⟨a1,va1,oa1,Va1,aa1⟩:=mulA (14/100000) V7 Vs4 (ab0 l7 u7) as4 (by decide+kernel) (by decide+kernel);obtain⟨a2,va2,oa2,Va2,aa2⟩:=addA (2002/10000) Va1 V5 aa1 (ab0 l5 u5) (by decide+kernel) (by decide+kernel);obtain⟨a3,va3,oa3,Va3,aa3⟩:=mulA (2/10000) Va2 Vs4 aa2 as4 (by decide+kernel) (by decide+kernel);obtain⟨a4,va4,oa4,Va4,aa4⟩:=addA (3003/10000) Va3 V3 aa3 (ab0 l3 u3) (by decide+kernel) (by decide+kernel);obtain⟨a5,va5,oa5,Va5,aa5⟩:=mulA (3/10000) Va4 Vs4 aa4 as4 (by decide+kernel) (by decide+kernel);obtain⟨a6,va6,oa6,Va6,aa6⟩:=addA (6674/10000) Va5 V1 aa5 (ab0 (show(0:Rat)≤L1 by grind) u1) (by decide+kernel) (by decide+kernel);obtain⟨t1,vt1,ot1,Vt1,at1⟩:=mulA (198/10000) Vs2 Va6 as2 aa6 (by decide+kernel) (by decide+kernel);obtain⟨b1,vb1,ob1,Vb1,ab1⟩:=mulA (2/10000) V6 Vs4 (ab0 l6 u6) as4 (by decide+kernel) (by decide+kernel);obtain⟨b2,vb2,ob2,Vb2,ab2⟩:=addA (2503/10000) Vb1 V4 ab1 (ab0 l4 u4) (by decide+kernel) (by decide+kernel);obtain⟨b3,vb3,ob3,Vb3,ab3⟩:=mulA (3/10000) Vb2 Vs4 ab2 as4 (by decide+kernel) (by decide+kernel);obtain⟨b4,vb4,ob4,Vb4,ab4⟩:=addA (4104/10000) Vb3 V2 ab3 (ab0 l2 u2) (by decide+kernel) (by decide+kernel);obtain⟨t2,vt2,ot2,Vt2,at2⟩:=mulA (4/10000) Vs4 Vb4 as4 ab4 (by decide+kernel) (by decide+kernel);obtain⟨R,vR,oR,VR,aR⟩:=addA (2021/100000) Vt1 Vt2 at1 at2 (by decide+kernel) (by decide+kernel);clear l7 u7 l5 u5 l3 u3 l1 u1 l6 u6 l4 u4 l2 u2 aa1 aa2 aa3 aa4 aa5 aa6 ab1 ab2 ab3 ab4 at1 at2 as2 as4 hs;have hh:Ab (1/2*vf) (2072/10000):=by constructor<;>grind
 obtain⟨h0,vh0,oh0,Vh0,nh0⟩:=mulW c_half hf (hh.le (by decide+kernel));have ah0:=abE (t':=2073/10000) nh0 hh (by decide+kernel);obtain⟨hq,vhq,ohq,Vhq,nhq⟩:=mulW Vh0 hf ((ah0.mul hfa).le (by decide+kernel));have ahq:=abE (t':=859/10000) nhq (ah0.mul hfa) (by decide+kernel);obtain⟨rh,vrh,orh,Vrh,arh⟩:=addA (10612/100000) VR Vhq aR ahq (by decide+kernel) (by decide+kernel);obtain⟨sr,vsr,osr,Vsr,asr⟩:=mulA (183/10000) Vs Vrh aS arh (by decide+kernel) (by decide+kernel);obtain⟨lo,vlo,olo,Vlo,alo⟩:=mulA (1/100000) VLo hk (ab0 lLo uLo) hka (by decide+kernel) (by decide+kernel);obtain⟨inner,vin,oin,Vin,ain⟩:=addA (184/10000) Vsr Vlo asr alo (by decide+kernel) (by decide+kernel);have aHi:Ab Hi (6932/10000):=ab0 (by grind) uHi;obtain⟨hi,vhi,ohi,Vhi,nhi⟩:=mulW hk VHi ((hka.mul aHi).le (by decide+kernel));have ahi:=abE (t':=6933/10000) nhi (hka.mul aHi) (by decide+kernel);have ae0:Ab (vhq-vin) (1043/10000):=by
  obtain⟨p,q⟩:=ahq;obtain⟨p',q'⟩:=ain;constructor<;>grind
 obtain⟨e,ve,oe,Ve,ne⟩:=subW Vhq Vin (ae0.le (by decide+kernel));have ae:=abE (t':=1044/10000) ne ae0 (by decide+kernel);have ad0:Ab (ve-vf) (5187/10000):=by
  obtain⟨p,q⟩:=ae;obtain⟨p',q'⟩:=hfa;constructor<;>grind
 obtain⟨d,vd,od,Vd,nd⟩:=subW Ve hf (ad0.le (by decide+kernel));have ad:=abE (t':=5188/10000) nd ad0 (by decide+kernel);have ar0:Ab (vhi-vd) 2:=by
  obtain⟨p,q⟩:=ahi;obtain⟨p',q'⟩:=ad;constructor<;>grind
 obtain⟨r,vr,or',Vr,nr⟩:=subW Vhi Vd (ar0.le (by decide+kernel));refine⟨tf,s,s2,s4,a1,a2,a3,a4,a5,a6,t1,b1,b2,b3,b4,t2,R,h0,hq,rh,sr,lo,inner,hi,e,d,r,vr,otf,os,os2,os4,oa1,oa2,oa3,oa4,oa5,oa6,ot1,ob1,ob2,ob3,ob4,ot2,oR,oh0,ohq,orh,osr,olo,oin,ohi,oe,od,or',Vr,?_,?_⟩
 ·have hd:dl=1/1000000000:=rfl;have hhq:Ab (vhq-1/2*(vf*vf)) (2*dl):=by
   have h3:=nh0.mul hfa;have h4:=nhq.add h3;rw[show vhq-vh0*vf+(vh0-1/2*vf)*vf=vhq-1/2*(vf*vf) by grind]at h4;exact h4.le (by decide+kernel)
  have hhi:Ab (vhi-vk*(6931/10000)) (2/10000):=by
   obtain⟨p,q⟩:=nhi;rw[hd]at p q;clear ad ad0 ae ae0 ar0 ahi ahq asr alo arh aS ah0 nh0 nhq hh aR ns ntf hhq;rcases hk01 with h|h<;>rw[h]at p q⊢ <;>constructor<;>grind
  clear ad ad0 ae ae0 ar0 ahi ahq asr alo arh aS ah0 nh0 nhq hh aR ns ntf;obtain⟨p1,q1⟩:=ain;obtain⟨p2,q2⟩:=hhq;obtain⟨p3,q3⟩:=hhi;obtain⟨p4,q4⟩:=ne;obtain⟨p5,q5⟩:=nd;obtain⟨p6,q6⟩:=nr;rw[hd]at*;generalize 1/2*(vf*vf)=ff at*;constructor<;>grind
 ·intro hk0 hf54;have h3:=gap Ve hf hf54;have h4:=sub_big Ve hf (by decide) (ad0.le (by decide+kernel)) od Vd h3;have h5:vhi=0:=mul_zero hk VHi (by rw[hk0];grind) ohi Vhi;have h6:=sub_big (c:= -201) Vhi Vd (by decide) (ar0.le (by decide+kernel)) or' Vr (by
   rw[h5];rw[show(-200:Int)-1= -201 by decide]at h4;rcases h4 with h|h|h
   ·left;rw[h];grind
   ·right;right;grind
   ·right;left;grind)
  rw[show(-201:Int)-1= -202 by decide]at h6;exact h6
end Go.Proofs.YthlakefgobflnaaGreatDoor.An
namespace Go.Proofs.YthlakefgobflnaaGreatDoor.An
open Ieee Go.Extern
set_option linter.unusedVariables false
section
variable {P : Program} {w : World}
theorem stepS{α β:Type}{m:Sem α}{g:α→Sem β}{a:α}{R:Result β}(h:m.run P w= .ok a w)(h2:(g a).run P w=R):(m>>=g).run P w=R:=by
 rw[Sem.run_bind,h];exact h2
theorem log_run(x f1 k0 k q f1' f:Nat)(vf vk:Rat)(sm:Bool)(h63:(x%2^63==0)=false)(h63': ¬x≥2^63)(hinf: ¬x≥MathAsm.posInf)(hf1:x%2^52+MathAsm.half=f1)(hk0:MathAsm.ofInt32 (Int.ofNat (x/2^52)-0x3FE)=k0)
 (hsm:(!MathAsm.lt 0x3FE6A09E667F3BCD f1)=sm) (hk:floatBits .sub .f64 k0 (if sm then MathAsm.one else 0)=some k) (hq:floatBits .add .f64 (if sm then MathAsm.one else 0) MathAsm.one=some q) (hf1':floatBits .mul .f64 f1 q=some f1') (hf:floatBits .sub .f64 f1' MathAsm.one=some f)
 (Vf:V f vf) (Vk:V k vk) (h1: -(293/1000)≤vf) (h2:vf≤4143/10000) (hk01:vk=0∨vk=1):
 ∃r vr,(∀(P:Program) (w:World),(MathLog.archLog #[.float .f64 x]).run P w= .ok (.float .f64 r) w)∧r<18446744073709551616∧V r vr∧Ab (vr-(vk*(6931/10000)+vf-1/2*(vf*vf))) (19/1000)∧(vk=0→p2 (-54)≤vf→vr=0∨p2 (-202)≤vr∨vr≤ -(p2 (-202))):=by
 obtain⟨tf,s,s2,s4,a1,a2,a3,a4,a5,a6,t1,b1,b2,b3,b4,t2,R,h0,hq',rh,sr,lo,inner,hi,e,d,r,vr,otf,os,os2,os4,oa1,oa2,oa3,oa4,oa5,oa6,ot1,ob1,ob2,ob3,ob4,ot2,oR,oh0,ohq,orh,osr,olo,oin,ohi,oe,od,or',Vr,hE,hB⟩:=log_core f k vf vk Vf Vk h1 h2 hk01;refine⟨r,vr,fun P w=>?_,double.sub_lt or',Vr,hE,hB⟩;have z:=@run_arith P w;have e0:MathLog.archLog #[.float .f64 x]=ite _ _ _:=rfl
 rw[e0,h63,if_neg (by decide),if_neg h63',if_neg hinf];dsimp only;rw[hf1,hk0,hsm];refine stepS (z hk) ?_;refine stepS (z hq) ?_;refine stepS (z hf1') ?_;refine stepS (z hf) ?_;refine stepS (z otf) ?_;refine stepS (z os) ?_;refine stepS (z os2) ?_;refine stepS (z os4) ?_;refine stepS (z oa1) ?_;refine stepS (z oa2) ?_;refine stepS (z oa3) ?_;refine stepS (z oa4) ?_;refine stepS (z oa5) ?_;refine stepS (z oa6) ?_;refine stepS (z ot1) ?_;refine stepS (z ob1) ?_;refine stepS (z ob2) ?_;refine stepS (z ob3) ?_;refine stepS (z ob4) ?_;refine stepS (z ot2) ?_;refine stepS (z oR) ?_;refine stepS (z oh0) ?_;refine stepS (z ohq) ?_;refine stepS (z orh) ?_;refine stepS (z osr) ?_;refine stepS (z olo) ?_;refine stepS (z oin) ?_;refine stepS (z ohi) ?_;refine stepS (z oe) ?_;refine stepS (z od) ?_;refine stepS (z or') ?_;rfl
theorem log_one(x:Nat)(hx:x=0x3FF0000000000000):(MathLog.archLog #[.float .f64 x]).run P w= .ok (.float .f64 0) w:=by
 have z:=@run_arith P w;have e0:MathLog.archLog #[.float .f64 x]=ite _ _ _:=rfl
 rw[e0];subst hx;rw[if_neg (by decide+kernel),if_neg (by decide+kernel),if_neg (by decide+kernel)];dsimp only;rw[show(0x3FF0000000000000%2^52+MathAsm.half:Nat)=0x3FE0000000000000 by decide+kernel,show MathAsm.ofInt32 (Int.ofNat (0x3FF0000000000000/2^52)-0x3FE)=0x3FF0000000000000 by decide+kernel,show(!MathAsm.lt 0x3FE6A09E667F3BCD 0x3FE0000000000000)=true by decide+kernel,if_pos rfl];refine stepS (z (show floatBits .sub .f64 0x3FF0000000000000 0x3FF0000000000000=some 0 by decide+kernel)) ?_;refine stepS (z (show floatBits .add .f64 0x3FF0000000000000 0x3FF0000000000000=some 0x4000000000000000 by decide+kernel)) ?_;refine stepS (z (show floatBits .mul .f64 0x3FE0000000000000 0x4000000000000000=some 0x3FF0000000000000 by decide+kernel)) ?_;refine stepS (z (show floatBits .sub .f64 0x3FF0000000000000 0x3FF0000000000000=some 0 by decide+kernel)) ?_;refine stepS (z (show floatBits .add .f64 0x4000000000000000 0=some 0x4000000000000000 by decide+kernel)) ?_;refine stepS (z (show floatBits .quo .f64 0 0x4000000000000000=some 0 by decide+kernel)) ?_;refine stepS (z (show floatBits .mul .f64 0 0=some 0 by decide+kernel)) ?_;refine stepS (z (show floatBits .mul .f64 0 0=some 0 by decide+kernel)) ?_;refine stepS (z (show floatBits .mul .f64 0x3FC2F112DF3E5244 0=some 0 by decide+kernel)) ?_;refine stepS (z (show floatBits .add .f64 0 0x3FC7466496CB03DE=some 0x3FC7466496CB03DE by decide+kernel)) ?_;refine stepS (z (show floatBits .mul .f64 0x3FC7466496CB03DE 0=some 0 by decide+kernel)) ?_;refine stepS (z (show floatBits .add .f64 0 0x3FD2492494229359=some 0x3FD2492494229359 by decide+kernel)) ?_;refine stepS (z (show floatBits .mul .f64 0x3FD2492494229359 0=some 0 by decide+kernel)) ?_;refine stepS (z (show floatBits .add .f64 0 0x3FE5555555555593=some 0x3FE5555555555593 by decide+kernel)) ?_;refine stepS (z (show floatBits .mul .f64 0 0x3FE5555555555593=some 0 by decide+kernel)) ?_;refine stepS (z (show floatBits .mul .f64 0x3FC39A09D078C69F 0=some 0 by decide+kernel)) ?_;refine stepS (z (show floatBits .add .f64 0 0x3FCC71C51D8E78AF=some 0x3FCC71C51D8E78AF by decide+kernel)) ?_;refine stepS (z (show floatBits .mul .f64 0x3FCC71C51D8E78AF 0=some 0 by decide+kernel)) ?_;refine stepS (z (show floatBits .add .f64 0 0x3FD999999997FA04=some 0x3FD999999997FA04 by decide+kernel)) ?_;refine stepS (z (show floatBits .mul .f64 0 0x3FD999999997FA04=some 0 by decide+kernel)) ?_;refine stepS (z (show floatBits .add .f64 0 0=some 0 by decide+kernel)) ?_;refine stepS (z (show floatBits .mul .f64 0x3FE0000000000000 0=some 0 by decide+kernel)) ?_;refine stepS (z (show floatBits .mul .f64 0 0=some 0 by decide+kernel)) ?_;refine stepS (z (show floatBits .add .f64 0 0=some 0 by decide+kernel)) ?_;refine stepS (z (show floatBits .mul .f64 0 0=some 0 by decide+kernel)) ?_;refine stepS (z (show floatBits .mul .f64 0x3DEA39EF35793C76 0=some 0 by decide+kernel)) ?_;refine stepS (z (show floatBits .add .f64 0 0=some 0 by decide+kernel)) ?_;refine stepS (z (show floatBits .mul .f64 0 0x3FE62E42FEE00000=some 0 by decide+kernel)) ?_;refine stepS (z (show floatBits .sub .f64 0 0=some 0 by decide+kernel)) ?_;refine stepS (z (show floatBits .sub .f64 0 0=some 0 by decide+kernel)) ?_;refine stepS (z (show floatBits .sub .f64 0 0=some 0 by decide+kernel)) ?_;rfl
theorem ub_ln2:UB (7572/10000) 2:=fun e he=>⟨[11893/10000,11893/10000,11893/10000,11893/10000],Pos.cons (by decide+kernel) (Pos.cons (by decide+kernel) (Pos.cons (by decide+kernel) (Pos.cons (by decide+kernel) (fun x hx=>by cases hx)))),by decide+kernel,by
 have:sm [11893/10000,11893/10000,11893/10000,11893/10000]=7572/10000:=by decide+kernel
 rw[this]
 grind⟩
theorem ub_lnh:UB (-(6364/10000)) (1/2):=fun e he=>⟨[8409/10000,8409/10000,8409/10000,8409/10000],Pos.cons (by decide+kernel) (Pos.cons (by decide+kernel) (Pos.cons (by decide+kernel) (Pos.cons (by decide+kernel) (fun x hx=>by cases hx)))),by decide+kernel,by
 have:sm [8409/10000,8409/10000,8409/10000,8409/10000]= -(6364/10000):=by decide+kernel
 rw[this]
 grind⟩
end
end Go.Proofs.YthlakefgobflnaaGreatDoor.An
namespace Go.Proofs.YthlakefgobflnaaGreatDoor.An
open Ieee Go.Extern
set_option linter.unusedVariables false
theorem cert0(X f v:Rat)(h1:1≤X)(h2:X≤142/100)(hf:Ab (f-(X-1)) (1/1000000))(hv:Ab (v-(6931/10000*0+f-1/2*(f*f))) (19/1000)):
 Ab v (37/50)∧UB (v+7/20) X∧UB (-v+7/20) (1/X):=by
 obtain⟨a,b⟩:=hf;obtain⟨c,d⟩:=hv;have hX:0<X:=by grind
 have fa:Ab f (43/100):=by constructor<;>grind
 have ff:=fa.mul fa;have f0:=sq_nonneg f;obtain⟨p,q⟩:=ff;generalize f*f=ff at*;refine⟨by constructor<;>grind,(UB.one hX).mono (by grind) Rat.le_refl,(UB.one (div_pos (by decide+kernel) hX)).mono ?_ Rat.le_refl⟩;have h3:1/X≤1-(X-1)+18/100:=by
  refine div_le hX ?_;have xa:Ab (X-1) (42/100):=by constructor<;>grind
  have xx:=(xa.mul xa).2;have:0≤(X-1):=by grind
  grind
 grind
theorem cert1(X g f v:Rat)(hX2:X=2*g)(h1:7071/10000≤g)(h2:g≤1)(hf:Ab (f-(g-1)) (1/1000000))(hv:Ab (v-(1*(6931/10000)+f-1/2*(f*f))) (19/1000)):
 Ab v (37/50)∧UB (v+7/20) X∧UB (-v+7/20) (1/X)∧1/4≤v:=by
 obtain⟨a,b⟩:=hf;obtain⟨c,d⟩:=hv;have hg:0<g:=by grind
 have fa:Ab f (294/1000):=by constructor<;>grind
 have ff:=fa.mul fa;have f0:=sq_nonneg f;obtain⟨p,q⟩:=ff;generalize f*f=ff at*;refine⟨by constructor<;>grind,?_,?_,by grind⟩
 ·rw[hX2];exact(ub_ln2.add (UB.one hg) (by decide+kernel) (Rat.le_of_lt hg)).mono (by grind) Rat.le_refl
 ·have e:1/X=1/2*(1/g):=by rw[hX2];grind
  have h3:1/g≤1-(g-1)+13/100:=by
   refine div_le hg ?_;have xa:Ab (g-1) (293/1000):=by constructor<;>grind
   have xx:=(xa.mul xa).2
   grind
  rw[e];exact(ub_lnh.add (UB.one (div_pos (by decide+kernel) hg)) (by decide+kernel) (Rat.le_of_lt (div_pos (by decide+kernel) hg))).mono (by grind) Rat.le_refl
theorem c_f1(t:Nat)(ht:t<4503599627370496):V (t+0x3FE0000000000000) (((4503599627370496+t:Nat):Rat)*p2 (-53)):=by
 refine⟨false,4503599627370496+t,-53,?_,by rw[sg_rat];rfl⟩;have hl:double.leastPlace= -1074:=by decide
 have hb:double.binade=4503599627370496:=by decide
 have hs:double.signWeight=9223372036854775808:=by decide
 have hi:double.infRung=9218868437227405312:=by decide
 unfold Format.read;rw[hl,hb,hs,hi];have e1:(t+0x3FE0000000000000)/9223372036854775808%2=0:=by omega
 have e2:(t+0x3FE0000000000000)%9223372036854775808=t+0x3FE0000000000000:=by omega
 dsimp only;rw[e1,e2,if_neg (by omega),if_pos (by omega)];have e3:4503599627370496+(t+0x3FE0000000000000)%4503599627370496=4503599627370496+t:=by omega
 have e4:(-1074:Int)+(((t+0x3FE0000000000000)/4503599627370496-1:Nat):Int)= -53:=by omega
 rw[e3,e4];rfl
theorem p2_m53:p2 (-53)*9007199254740992=1:=by
 have e:((2^53:Nat):Rat)*p2 (-53)=1:=by
  rw[←p2_nat,←p2_add];exact p2_zero
 have e2:((2^53:Nat):Rat)=9007199254740992:=rfl
 grind
theorem sub_one3{g v:Rat}(hg:0≤g)(hg1:g≤2)(n:Ab (v-g) dl):Ab (v-1) 3:=by
 have hd:dl=1/1000000000:=rfl;rw[hd]at n;obtain⟨a,b⟩:=n;constructor<;>grind
theorem two_dl{f v g:Rat}(n:Ab (f-(v-1)) dl)(n1:Ab (v-g) dl):Ab (f-(g-1)) (2*dl):=by
 obtain⟨a,b⟩:=n;obtain⟨c,d⟩:=n1;constructor<;>grind
theorem log_cert(t:Nat)(ht:t≤4503599627370496)(X:Rat)(hX:X*4503599627370496=4503599627370496+(t:Rat)):
 ∃r v,(∀(P:Program) (w:World),(MathLog.archLog #[.float .f64 (4607182418800017408+t)]).run P w= .ok (.float .f64 r) w)∧r<18446744073709551616∧V r v∧(v=0∨p2 (-202)≤v∨v≤ -(p2 (-202)))∧Ab v (37/50)∧UB (v+7/20) X∧UB (-v+7/20) (1/X):=by
 rcases Nat.eq_zero_or_pos t with rfl|ht0
 ·have hX1:X=1:=by
   have e0:((0:Nat):Rat)=0:=rfl;rw[e0]at hX
   grind
  refine⟨0,0,fun P w=>log_one _ rfl,by decide,c_zero,.inl rfl,⟨by decide+kernel,by decide+kernel⟩,?_,?_⟩
  ·rw[hX1];exact(UB.one (q:=1) (by decide+kernel)).mono (by decide+kernel) Rat.le_refl
  ·rw[hX1];exact(UB.one (q:=1) (by decide+kernel)).mono (by decide+kernel) (by decide+kernel)
 have ht1:(1:Rat)≤(t:Rat):=by exact_mod_cast ht0
 rcases Nat.lt_or_ge t 4503599627370496 with htl|htl
 ·have htr:(t:Rat)+1≤4503599627370496:=by
   have:((t+1:Nat):Rat)≤((4503599627370496:Nat):Rat):=by exact_mod_cast htl
   rw[cast_succ]at this;exact this
  have hm:(4607182418800017408+t)%2^52+MathAsm.half=t+0x3FE0000000000000:=by
   have e:(2:Nat)^52=4503599627370496:=by decide
   rw[e];show _+0x3FE0000000000000=_;omega
  have hk0:MathAsm.ofInt32 (Int.ofNat ((4607182418800017408+t)/2^52)-0x3FE)=MathAsm.one:=by
   have e:(2:Nat)^52=4503599627370496:=by decide
   rw[e,show(4607182418800017408+t)/4503599627370496=1023 by omega];decide+kernel
  have V1:=c_f1 t htl;generalize hg:((4503599627370496+t:Nat):Rat)*p2 (-53)=g at V1;have hgX:X=2*g:=by
   have e53:=p2_m53;have:((4503599627370496+t:Nat):Rat)=4503599627370496+(t:Rat):=Rat.natCast_add _ _;rw[this]at hg
   grind
  obtain⟨sq,Vsq,lsq,usq⟩:=c_sq;have hlt:=ltW Vsq V1;have n63:((4607182418800017408+t)%2^63==0)=false:=by
   have e:(2:Nat)^63=9223372036854775808:=by decide
   rw[e,show(4607182418800017408+t)%9223372036854775808=4607182418800017408+t by omega];simp
  have n63': ¬(4607182418800017408+t≥2^63):=by
   have e:(2:Nat)^63=9223372036854775808:=by decide
   rw[e];omega
  have ninf: ¬(4607182418800017408+t≥MathAsm.posInf):=by
   show¬(4607182418800017408+t≥0x7FF0000000000000);omega
  by_cases hs:sq<g
  ·have hsm:(!MathAsm.lt 0x3FE6A09E667F3BCD (t+0x3FE0000000000000))=false:=by rw[hlt,decide_eq_true hs];rfl
   obtain⟨f1',v1,o1,Vf1,n1⟩:=mulW V1 c_one (by constructor<;>grind);have hd:dl=1/1000000000:=rfl;rw[Rat.mul_one]at n1;obtain⟨f,vf,of,Vf,nf⟩:=subW Vf1 c_one (sub_one3 (by grind) (by grind) n1);have hfg:=two_dl nf n1;have hfg2:=hfg.le (show 2*dl≤1/1000000 by decide+kernel);have fl: -(293/1000)≤vf:=by
    obtain⟨a,b⟩:=hfg2
    grind
   have fu:vf≤4143/10000:=by
    obtain⟨a,b⟩:=hfg2
    grind
   obtain⟨r,vr,h1,hlt64,h2,h3,h4⟩:=log_run (4607182418800017408+t) _ _ MathAsm.one MathAsm.one f1' f vf 1 false n63 n63' ninf hm hk0 hsm (by decide+kernel) (by decide+kernel) o1 of Vf c_one fl fu (.inr rfl);obtain⟨c1,c2,c3,c4⟩:=cert1 X g vf vr hgX (by grind) (by grind) hfg2 h3;refine⟨r,vr,h1,hlt64,h2,.inr (.inl ?_),c1,c2,c3⟩;have:p2 (-202)≤p2 (-2):=p2_mono (by omega);have e2:p2 (-2)=1/4:=by decide+kernel
   grind
  ·have hsm:(!MathAsm.lt 0x3FE6A09E667F3BCD (t+0x3FE0000000000000))=true:=by rw[hlt,decide_eq_false hs];rfl
   have hd:dl=1/1000000000:=rfl;obtain⟨q,q1,q2⟩:=prod_D (V_D V1) (V_D c_two);rw[show g*2=X by grind]at q2;have e1:p2 1=2:=Rat.zpow_one 2;have e53:=p2_m53;obtain⟨v1,Vf1,n1⟩:=write_D (c:=1) q2 (by decide) (by decide) (by rw[e1];grind) (by rw[e1];grind);rw[show(1:Int)-54= -53 by decide]at n1;have o1:floatBits .mul .f64 (t+0x3FE0000000000000) MathAsm.two=some (double.write q):=by
    show((double.read (t+0x3FE0000000000000)).product (double.read MathAsm.two)).map double.write=_;have e2:MathAsm.two=0x4000000000000000:=rfl;rw[e2,q1];rfl
   obtain⟨p,p1,p22⟩:=sum_D (V_D Vf1) (opp_D (V_D c_one));rw[show v1+ -1=v1-1 by grind]at p22;have big:p2 (-53)≤v1-1:=by
    obtain⟨a,b⟩:=n1
    grind
   have e4:p2 (-53)≤1/1000000000:=by decide+kernel
   have n1':=n1.le (show p2 (-53)≤dl by decide+kernel);have b1:Ab (v1-1) 3:=sub_one3 (by grind) (by grind) n1';obtain⟨vf,Vf,nf⟩:=opW p22 b1;have of:floatBits .sub .f64 (double.write q) MathAsm.one=some (double.write p):=by
    show((double.read (double.write q)).sum (double.read MathAsm.one).opposite).map double.write=_;have e2:MathAsm.one=0x3FF0000000000000:=rfl;rw[e2,p1];rfl
   have hf54:=write_pos p22 (by decide) big (b1.le (by decide+kernel)) Vf;rw[show(-53:Int)-1= -54 by decide]at hf54;have hfX:=two_dl (nf.le (show dl/2≤dl by decide+kernel)) n1';have hfX2:=hfX.le (show 2*dl≤1/1000000 by decide+kernel);have fl: -(293/1000)≤vf:=by
    obtain⟨a,b⟩:=hfX2
    grind
   have fu:vf≤4143/10000:=by
    obtain⟨a,b⟩:=hfX2
    grind
   obtain⟨r,vr,h1,hlt64,h2,h3,h4⟩:=log_run (4607182418800017408+t) _ _ 0 MathAsm.two _ _ vf 0 true n63 n63' ninf hm hk0 hsm (by decide+kernel) (by decide+kernel) o1 of Vf c_zero fl fu (.inl rfl);obtain⟨c1,c2,c3⟩:=cert0 X vf vr (by grind) (by grind) hfX2 (by rw[show(6931/10000*0:Rat)=0*(6931/10000) by grind];exact h3);exact⟨r,vr,h1,hlt64,h2,h4 rfl hf54,c1,c2,c3⟩
 ·have hte:t=4503599627370496:=by omega
  subst hte;have hX2:X=2*1:=by
   have e:((4503599627370496:Nat):Rat)=4503599627370496:=rfl;rw[e]at hX
   grind
  obtain⟨r,vr,h1,hlt64,h2,h3,h4⟩:=log_run (4607182418800017408+4503599627370496) MathAsm.half MathAsm.two MathAsm.one MathAsm.two MathAsm.one 0 0 1 true (by decide+kernel) (by decide+kernel) (by decide+kernel) (by decide+kernel) (by decide+kernel) (by decide+kernel) (by decide+kernel) (by decide+kernel) (by decide+kernel) (by decide+kernel) c_zero c_one (by decide+kernel) (by decide+kernel) (.inr rfl);obtain⟨c1,c2,c3,c4⟩:=cert1 X 1 0 vr hX2 (by decide+kernel) (by decide+kernel) (by constructor<;>decide+kernel) h3;refine⟨r,vr,h1,hlt64,h2,.inr (.inl ?_),c1,c2,c3⟩;have:p2 (-202)≤p2 (-2):=p2_mono (by omega);have e2:p2 (-2)=1/4:=by decide+kernel
  grind
end Go.Proofs.YthlakefgobflnaaGreatDoor.An
