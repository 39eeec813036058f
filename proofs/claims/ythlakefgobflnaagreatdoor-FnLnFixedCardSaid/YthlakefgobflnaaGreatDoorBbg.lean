/- CONTRACTS: rows divided by a word of at most eight bits, in place. CONTRACTS: nat.lsh by 0. -/
import Derived.Test.YthlakefgobflnaaGreatDoorBbf
import Derived.Test.YthlakefgobflnaaGreatDoorBbd
import Derived.Test.YthlakefgobflnaaGreatDoorBbc
import Derived.Test.YthlakefgobflnaaGreatDoorBag
namespace Go.Proofs.YthlakefgobflnaaGreatDoor.G
open Go.RowKit Go.Proofs.YthlakefgobflnaaGreatDoorW.PrintWords Go.Proofs.YthlakefgobflnaaGreatDoorW.PrintLast Go.Proofs.YthlakefgobflnaaGreatDoorW.PrintMore Go.Proofs.YthlakefgobflnaaGreatDoor.S
set_option linter.unusedVariables false
set_option linter.unusedSimpArgs false
theorem dww_end{N y P U q r:Nat}(hP:0<P)(hU:y*P=U)(h:N*P=q*U+r)(hr:r<U):N/y=q∧r/P=N%y:=by
 have hU0:0<U:=by omega
 have hy:0<y:=by
  rcases Nat.eq_zero_or_pos y with h0|h0
  ·subst h0;rw[Nat.zero_mul]at hU;omega
  ·exact h0
 have e1:N*P/U=N/y:=by rw[←hU,Nat.mul_div_mul_right _ _ hP]
 have e2:N*P/U=q:=by rw[h,Nat.mul_comm q U,Nat.mul_add_div hU0,Nat.div_eq_of_lt hr,Nat.add_zero]
 have e3:N*P%U=N%y*P:=by rw[←hU,Nat.mul_mod_mul_right]
 have e4:N*P%U=r:=by rw[h,Nat.mul_comm q U,Nat.mul_add_mod,Nat.mod_eq_of_lt hr]
 refine⟨by rw[←e1,e2],?_⟩;rw[←e4,e3,Nat.mul_div_cancel _ hP]
set_option maxRecDepth 100000 in
set_option maxHeartbeats 1000000 in
theorem divWW_is(x1 x0 y s t U:Nat)(w:World)(hs:64-Lib.bitLen y=s)(hst:s+t=64)(hU:y*2^s=U)(hU2:U<18446744073709551616)(hU1:9223372036854775808≤U)(hx1:x1<y)(hy:y<256)(hx0:x0<18446744073709551616)(hs0:0<s)(ht0:0<t):
 Calls Tryz.prog 151 #[.int .u64 (x1:Int),.int .u64 (x0:Int),.int .u64 (y:Int),.int .u64 (rec8 U:Int)] w fun e w'=>e= .returned (.tuple #[.int .u64 (((x1*18446744073709551616+x0)/y:Nat):Int),.int .u64 (((x1*18446744073709551616+x0)%y:Nat):Int)])∧Below w.heap.size w w':=by
 have HB:=ak (Below.refl w.heap.size w);have HL:=ak (fun w0=>nlz_is (y:Int) w0 (by omega) (by omega));rw[Int.toNat_natCast,hs]at HL;have g1:=word_shl x1 x0 s t (by omega) hx0 hst;have g2:IntKind.u64.wrap ((x0:Int)*2^s)=((x0*2^s%18446744073709551616:Nat):Int):=by
  rw[IntKind.wrap_u64,show((x0:Int)*2^s)=((x0*2^s:Nat):Int) by rw[Int.natCast_mul,Int.natCast_pow];rfl];omega
 have g3:IntKind.u64.wrap ((y:Int)*2^s)=(U:Int):=wrap_eq (by rw[←hU,Int.natCast_mul,Int.natCast_pow];rfl) hU2;have g4:IntKind.u64.wrap (64-(s:Int))=(t:Int):=wrap_eq (by omega) (by omega);obtain⟨X1,X0,hi,lo,c,q,e1,e0,b,r0,r1,r,k1,k2,k3,k4,k5,k6,k7,k8,k9,k10,k11,k12,k13,k14,k15,k16,k17,k18,k19,k20,k21,k22⟩:=dww_nums y s t U x1 x0 hst hU hU2 hU1 hx1 hx0;rw[k1]at g1;rw[k2]at g2;have HM1:=ak (fun w0=>bits_Mul.calls (rec8 U:Int) (X1:Int) _ _ w0 (Lm.mul64_f (rec8 U) X1 k5 k3));rw[k7,k8]at HM1;have HA1:=ak (fun w0=>addc_is lo X0 0 (by omega) w0);rw[k9]at HA1;have HA2:=ak (fun w0=>addc_is hi X1 c k10 w0);rw[k11]at HA2;have HM2:=ak (fun w0=>bits_Mul.calls (U:Int) (q:Int) _ _ w0 (Lm.mul64_f U q hU2 k6));rw[k12,k13]at HM2;have HS1:=ak (fun w0=>subc_is X0 e0 0 (by omega) w0);rw[k14,k15]at HS1;have HS2:=ak (fun w0=>subc_is X1 e1 b k16 w0);rw[k17]at HS2;have HE:=ak (fun q' r'=>dww_end (N:=x1*18446744073709551616+x0) (q:=q') (r:=r') (Nat.pow_pos (show 0<2 by omega)) hU);have HK:=ak (And.intro k18 (And.intro k19 (And.intro k20 (And.intro k21 (And.intro k22 (And.intro k6 (And.intro hU2 hU1)))))));have HU0:=ak (show x1*18446744073709551616+x0<y*18446744073709551616 by omega);have c0:((s:Int) != 0)=true:=bne_iff_ne.2 (by omega);have s1:(0:Int)≤(s:Int):=by omega
 have s2:(s:Int)≤64:=by omega
 have t1:(0:Int)≤(t:Int):=by omega
 have t2:(t:Int)≤64:=by omega
 generalize (((lo+X0+0)%18446744073709551616:Nat):Int)=l1 at*;generalize (((hi+X1+c)/18446744073709551616:Nat):Int)=l2 at*;generalize ((if X1<e1+b then 1 else 0:Nat):Int)=l3 at*;clear hs hst hU hU2 hU1 hx1 hy hx0 hs0 ht0 k1 k2 k3 k4 k5 k6 k7 k8 k9 k10 k11 k12 k13 k14 k15 k16 k17 k18 k19 k20 k21 k22;generalize rec8 U=m at*
 go_enter Tryz.func151,Tryz.ntmps151
 go_wp2_with fail
 refine(HL.out _).mono ?_;rintro e w1 ⟨rfl,rfl⟩
 go_wp2_with fail
 refine(HM1.out _).mono ?_;rintro e w2 ⟨rfl,hb⟩;have HB2:=ak (below_step HB.out (Drawn0.below hb));clear hb
 go_wp2_with fail
 refine(HA1.out _).mono ?_;rintro e w3 ⟨rfl,hb⟩;have HB3:=ak (below_step HB2.out hb);clear hb
 go_wp2_with fail
 refine(HA2.out _).mono ?_;rintro e w4 ⟨rfl,hb⟩;have HB4:=ak (below_step HB3.out hb);clear hb
 go_wp2_with fail
 refine(HM2.out _).mono ?_;rintro e w5 ⟨rfl,hb⟩;have HB5:=ak (below_step HB4.out (Drawn0.below hb));clear hb
 go_wp2_with fail
 refine(HS1.out _).mono ?_;rintro e w6 ⟨rfl,hb⟩;have HB6:=ak (below_step HB5.out hb);clear hb
 go_wp2_with fail
 refine(HS2.out _).mono ?_;rintro e w7 ⟨rfl,hb⟩;have HB7:=ak (below_step HB6.out hb);clear hb HB HB2 HB3 HB4 HB5 HB6 HL HM1 HA1 HA2 HM2 HS1 HS2 g1 g2 g3 g4;obtain⟨k18,k19,k20,k21,k22,k6,hU2,hU1⟩:=HK.out;obtain⟨z1,hz1⟩: ∃z:Int,(((x1*18446744073709551616+x0)/y:Nat):Int)=z:=⟨_,rfl⟩
 obtain⟨z2,hz2⟩: ∃z:Int,(((x1*18446744073709551616+x0)%y:Nat):Int)=z:=⟨_,rfl⟩
 have HZ:=ak (And.intro hz1 hz2);have hqy:=Nat.div_lt_of_lt_mul HU0.out;by_cases hr1:r1=0
 ·have d1:((r1:Int) != 0)=false:=by rw[hr1];rfl
  have hrr:r=r0:=by omega
  by_cases hr0:U≤r0
  ·have d2:decide ((r0:Int)≥(U:Int))=true:=decide_eq_true (by omega);obtain⟨f1,f2⟩:=HE.out (q+1) (r0-U) (by rw[k18,hrr,Nat.add_mul];omega) (by omega);have f5:((r0-U:Nat):Int)/2^s=z2:=by rw[←hz2,←f2,Int.natCast_ediv,Int.natCast_pow];rfl
   rw[f1]at hz1 hqy;have f3:IntKind.u64.wrap ((q:Int)+1)=z1:=by rw[←hz1];exact wrap_eq (by omega) hqy
   have f4:IntKind.u64.wrap ((r0:Int)-(U:Int))=((r0-U:Nat):Int):=wrap_eq (by omega) (by omega);generalize ((r0-U:Nat):Int)=z3 at*;clear k18 k19 k20 k21 k22 k6 hU2 hU1 hr1 hrr f1 f2 hqy hz1 hz2
   go_wp2_with fail
   go_ret2
   exact⟨by rw[HZ.out.1,HZ.out.2];rfl,HB7.out⟩
  ·have d2:decide ((r0:Int)≥(U:Int))=false:=decide_eq_false (by omega);obtain⟨f1,f2⟩:=HE.out (q+0) (r0) (by rw[k18,hrr,Nat.add_mul];omega) (by omega);have f5:((r0:Nat):Int)/2^s=z2:=by rw[←hz2,←f2,Int.natCast_ediv,Int.natCast_pow];rfl
   rw[f1]at hz1 hqy;have f3:(q:Int)=z1:=by rw[←hz1];rfl
   subst f3;clear k18 k19 k20 k21 k22 k6 hU2 hU1 hr1 hrr f1 f2 hqy hz1 hz2
   go_wp2_with fail
   go_ret2
   exact⟨by rw[HZ.out.1,HZ.out.2];rfl,HB7.out⟩
 ·have d1:((r1:Int) != 0)=true:=bne_iff_ne.2 (by omega);obtain⟨ra,hra⟩: ∃ra,r-U=ra:=⟨_,rfl⟩
  have f4:IntKind.u64.wrap ((r0:Int)-(U:Int))=(ra:Int):=by rw[IntKind.wrap_u64];omega
  have hrr:r=U+ra:=by omega
  by_cases hr0:U≤ra
  ·have d2:decide ((ra:Int)≥(U:Int))=true:=decide_eq_true (by omega);obtain⟨f1,f2⟩:=HE.out (q+2) (ra-U) (by rw[k18,hrr,Nat.add_mul];omega) (by omega);have f5:((ra-U:Nat):Int)/2^s=z2:=by rw[←hz2,←f2,Int.natCast_ediv,Int.natCast_pow];rfl
   rw[f1]at hz1 hqy;have f3:IntKind.u64.wrap ((q:Int)+1)=((q+1:Nat):Int):=wrap_eq (by omega) (by omega);have f6:IntKind.u64.wrap (((q+1:Nat):Int)+1)=z1:=by rw[←hz1];exact wrap_eq (by omega) hqy
   have f7:IntKind.u64.wrap ((ra:Int)-(U:Int))=((ra-U:Nat):Int):=wrap_eq (by omega) (by omega);obtain⟨q1,hq1⟩: ∃q1:Int,((q+1:Nat):Int)=q1:=⟨_,rfl⟩
   rw[hq1]at f3 f6;clear hq1;generalize ((ra-U:Nat):Int)=z3 at*;clear k18 k19 k20 k21 k22 k6 hU2 hU1 hr1 hrr hra f1 f2 hqy hz1 hz2
   go_wp2_with fail
   go_ret2
   exact⟨by rw[HZ.out.1,HZ.out.2];rfl,HB7.out⟩
  ·have d2:decide ((ra:Int)≥(U:Int))=false:=decide_eq_false (by omega);obtain⟨f1,f2⟩:=HE.out (q+1) (ra) (by rw[k18,hrr,Nat.add_mul];omega) (by omega);have f5:((ra:Nat):Int)/2^s=z2:=by rw[←hz2,←f2,Int.natCast_ediv,Int.natCast_pow];rfl
   rw[f1]at hz1 hqy;have f3:IntKind.u64.wrap ((q:Int)+1)=z1:=by rw[←hz1];exact wrap_eq (by omega) hqy
   clear k18 k19 k20 k21 k22 k6 hU2 hU1 hr1 hrr hra f1 f2 hqy hz1 hz2
   go_wp2_with fail
   go_ret2
   exact⟨by rw[HZ.out.1,HZ.out.2];rfl,HB7.out⟩
set_option maxRecDepth 100000 in
theorem divWVW_one(g p cz cx y:Nat)(L:List Int)(x0:Nat)(w:World)(hR:RowAt w g L)(hL:1≤L.length)(hx:Rd w ⟨p,0,none⟩ [(x0:Int)])(hx0:x0<18446744073709551616)(hy:0<y):
 Calls Tryz.prog 133 #[.slice (some ⟨g,0,none⟩) 1 cz,.int .u64 0,.slice (some ⟨p,0,none⟩) 1 cx,.int .u64 (y:Int)] w fun e w'=>(∃r:Nat,r<18446744073709551616∧e= .returned (.int .u64 (r:Int)))∧RowAt w' g (L64.seg L 0 (L64.divT [(x0:Int)] y) 0 1)∧Only g w w':=by
 have hc:w.cell? ⟨p,0,none⟩=some (.int .u64 (x0:Int)):=hx.2 0 (by simp);have HQ:=ak (fun w0=>bitsDiv_low x0 y w0 hy hx0);have hT:L64.divT [(x0:Int)] y= [((x0/y:Nat):Int)]:=by
  simp[L64.divT,L64.mk,L64.divK]
 rw[hT];have HE:=ak (L64.seg_up (L:=L) (d:=0) (a:=0) (b:=0) (T:= [((x0/y:Nat):Int)]) (by simpa using hL) (by simp) (Nat.le_refl _) rfl);rw[L64.seg_nil]at HE;have HVl:=ak (show x0%y<18446744073709551616 from Nat.lt_of_le_of_lt (Nat.mod_le _ _) hx0);have HR:=ak hR;have HL:=ak hL;clear hR hL hx hx0 hy hT;generalize ((x0/y:Nat):Int)=u at*;obtain⟨v,hv⟩: ∃v:Nat,x0%y=v:=⟨_,rfl⟩
 rw[hv]at HQ HVl;clear hv
 go_enter Tryz.func133,Tryz.ntmps133
 go_wp2_with fail
 refine(HQ.out _).mono ?_;rintro e w2 ⟨rfl,hb⟩;have HR2:=ak (HR.out.below hb);have HO2:=ak (Only.of g hb);have hr:=HR2.out.cell 0 (by have:=HL.out;omega);have hz:=blk_frozen HR2.out 0;clear hb HQ hc
 go_wp2_with fail
 go_ret
 exact⟨⟨_,HVl.out,rfl⟩,by rw[←HE.out];exact HR2.out.set 0 u,HO2.out.set 0 _⟩
set_option maxRecDepth 100000 in
theorem divWVW_many(g p cz cx y s t U k:Nat)(L x:List Int)(w:World)(hR:RowAt w g L)(hxL:x.length≤L.length)(hL:L.length≤100000)(hx:Rd w ⟨p,0,none⟩ x)(hp:p<w.heap.size)(hox:L64.Ok x)(h1:1<x.length)
 (hs:64-Lib.bitLen y=s) (hst:s+t=64) (hU:y*2^s=U) (hk1:128≤k) (hk2:k<256) (hkU:k*72057594037927936=U) (hy0:0<y) (hy:y<256) (hs0:0<s) (ht0:0<t):
 Calls Tryz.prog 133 #[.slice (some ⟨g,0,none⟩) x.length cz,.int .u64 0,.slice (some ⟨p,0,none⟩) x.length cx,.int .u64 (y:Int)] w fun e w'=>(∃r:Nat,r<18446744073709551616∧e= .returned (.int .u64 (r:Int)))∧RowAt w' g (L64.seg L 0 (L64.divT x y) 0 x.length)∧Only g w w':=by
 have hTl:(L64.divT x y).length=x.length:=L64.mk_len _ _;have HRd:=ak (fun w' a i (ha:a≤x.length) (hi:i<a) h1 h2=>seg_read (w':=w') (a:=a) (b:=x.length) hR (T:=L64.divT x y) (d:=0) (by rw[hTl];omega) (by rw[hTl];omega) ha hx (fun _=>by show 0+_≤_;omega) h1 h2 hp i (by omega) (fun _=>.inl (by show 0+i<0+a;omega)));have HSt:=ak (fun a (ha:a<x.length)=>L64.seg_dn (L:=L) (d:=0) (a:=a) (T:=L64.divT x y) (b:=x.length) (by rw[hTl];omega) (by rw[hTl];omega) ha (v:=(((L64.divK x y (x.length-1-a)*18446744073709551616+(x.getD a 0).toNat)/y:Nat):Int)) (L64.mk_get _ ha));have HLn:=ak (fun a (ha:a≤x.length)=>L64.seg_len (L:=L) (d:=0) (T:=L64.divT x y) (a:=a) (b:=x.length) (by rw[hTl];omega) (by rw[hTl];omega) ha);have HRc:=ak (fun w0=>recip_is y s k U w0 hs hk1 hk2 hkU hU hy (by omega));have HDv:=ak (fun x1 x0 w0 (h1:x1<y) (h2:x0<18446744073709551616)=>divWW_is x1 x0 y s t U w0 hs hst hU (by omega) (by omega) h1 hy h2 hs0 ht0);have HX:=ak hox;have HK:=ak (fun j=>L64.divK_lt x hy0 j);have HY:=ak hy;have HKs:=ak (fun j=>show L64.divK x y (j+1)=(L64.divK x y j*18446744073709551616+(x.getD (x.length-1-j) 0).toNat)%y from rfl);have HD:=ak (And.intro hxL (And.intro hL h1));have HR:=ak (show RowAt w g (L64.seg L 0 (L64.divT x y) x.length x.length) by rw[L64.seg_nil];exact hR);have HO:=ak (Only.refl g w);have c1:((x.length:Int)==1)=false:=beq_eq_false_iff_ne.2 (by omega);have c2: ¬(x.length=1):=by omega
 generalize L64.divT x y=T at*;clear hTl hR hxL hL hx hp hox h1 hs hst hU hk1 hk2 hkU hy0 hy hs0 ht0;generalize rec8 U=m at*
 go_enter Tryz.func133,Tryz.ntmps133
 go_wp2_with fail
 refine(HRc.out _).mono ?_;rintro e w1 ⟨rfl,hb⟩;have HR1:=ak (HR.out.below hb);have HO1:=ak (HO.out.below' hb);have e1:wrap64 ((x.length:Int)-1)=((x.length:Int)-1):=Lm.w64 (by have:=HD.out;omega) (by have:=HD.out;omega);clear hb HR HO HRc
 go_wp2_with fail
 go_loopg [8,12] (x.length) (fun kq v8 v12 w'=>∃(j:Nat),v8= .int .u64 (L64.divK x y j:Int)∧v12= .int .i64 ((x.length:Int)-1-(j:Int))∧Aside0 (j+kq=x.length)∧Aside0 (RowAt w' g (L64.seg L 0 T (x.length-j) x.length))∧Aside0 (Only g w w'))
 case atStart=>exact⟨0,rfl,(by show Value.int .i64 _=Value.int .i64 _;congr 1;have:=e1;omega),⟨Nat.zero_add _⟩,HR1,HO1⟩
 case round=>
  obtain⟨j,rfl,rfl,HI,HRi,HOi⟩:=hrel;clear HR1 HO1 e1;by_cases c:j<x.length
  ·cases gk with
   |zero=>exact absurd HI.out (by omega)
   |succ k1=>
    obtain⟨i,hi⟩: ∃i,x.length-1-j=i:=⟨_,rfl⟩
    have ha:x.length-j=i+1:=by omega
    have hij:x.length-1-i=j:=by omega
    rw[ha]at HRi;have hx1:=HRd.out _ (i+1) i (by omega) (by omega) HRi.out HOi.out;rw[L64.getN HX.out i,Nat.zero_add]at hx1;have hst:=HSt.out i (by omega);rw[hij,Nat.zero_add]at hst;have hks:=HKs.out j;rw[hi]at hks;have hX:=L64.ok_getN HX.out i;generalize (x.getD i 0).toNat=X at*;have hkl:=HK.out j;generalize L64.divK x y j=K at*;have HDi:=ak (fun w0=>HDv.out K X w0 hkl hX);have ei:(x.length:Int)-1-(j:Int)=(i:Int):=by omega
    rw[ei];have c0:decide ((i:Int)≥0)=true:=decide_eq_true (by omega);have c3:(0:Int)≤(i:Int):=by omega
    have c4:(i:Int)<(x.length:Int):=by omega
    have e2:wrap64 ((i:Int)-1)=(i:Int)-1:=Lm.w64 (by omega) (by have:=HD.out;omega);obtain⟨z1,hz1⟩: ∃z:Int,(((K*18446744073709551616+X)/y:Nat):Int)=z:=⟨_,rfl⟩
    obtain⟨z2,hz2⟩: ∃z:Int,(((K*18446744073709551616+X)%y:Nat):Int)=z:=⟨_,rfl⟩
    rw[hz1]at hst HDi;rw[hz2]at HDi;have HST:=ak hst;have HKS:=ak (show(L64.divK x y (j+1):Int)=z2 by rw[hks];exact hz2);have HIJ:=ak (And.intro hi (And.intro ha ei));clear hst hks hX hkl hi ha hij ei hz1 hz2
    go_wp2_with fail
    refine(HDi.out _).mono ?_;rintro e w2 ⟨rfl,hb⟩;have HR2:=ak (HRi.out.below hb);have HO2:=ak (HOi.out.below' hb);have hr:=HR2.out.cell i (by rw[HLn.out (i+1) (by omega)];have:=HD.out;omega);have hz:=blk_frozen HR2.out i;clear hb HDi hx1 HRi HOi
    go_wp2_with fail
    go_roundg k1
    case measure=>omega
    case rel=>exact⟨j+1,(by rw[HKS.out]),(by first|(have:=HIJ.out;congr 1;omega)|(rw[e2];have:=HIJ.out;congr 1;omega)),⟨by have:=HI.out;omega⟩,⟨by have:=HIJ.out;rw[show x.length-(j+1)=i by omega,←HST.out];exact HR2.out.set i z1⟩,⟨HO2.out.set i _⟩⟩
  ·have hj:j=x.length:=by have:=HI.out;omega
   subst hj;have c0:decide (((x.length:Int)-1-(x.length:Int))≥0)=false:=decide_eq_false (by omega);have e9:(x.length:Int)-1-(x.length:Int)= -1:=by omega
   rw[e9];rw[Nat.sub_self]at HRi;clear c0 e9
   go_wp2_with fail
   go_ret
   exact⟨⟨_,by have:=HK.out x.length;have:=HY.out;omega,rfl⟩,HRi.out,HOi.out⟩
theorem seg_row{L T:List Int}{n:Nat}(hT:T.length=n)(hn:n≤L.length):(L64.seg L 0 T 0 n).length=L.length∧(L64.seg L 0 T 0 n).take n=T:=by
 refine⟨L64.seg_len (by omega) (by omega) (Nat.zero_le _),?_⟩;rw[L64.seg_all _ hT.symm,List.take_zero,List.nil_append,←hT,List.take_left]
set_option maxRecDepth 100000 in
theorem divW_pos(z vx:Value)(r rx:Option Nat)(x:List Int)(y:Nat)(w:World)(hz:Dst w z r)(hx:Opd w vx rx x)(h0:0<x.length)(hm:x.length≤800)(hox:L64.Ok x)(hy1:1<y)(hy:y<256):
 Calls Tryz.prog 110 #[z,vx,.int .u64 (y:Int)] w fun e w'=>∃v r' rem,e= .returned (.tuple #[v,.int .u64 ((rem:Nat):Int)])∧rem<18446744073709551616∧Row w' v r' (L64.lim (L64.val x/y))∧New w r r'∧Chg r w w':=by
 have HX:=ak hx;obtain⟨p,cx,rfl,rfl,-,-,hcx,-,-⟩:=hx.open_ h0;obtain⟨m,em⟩: ∃m,x.length=m:=⟨_,rfl⟩
 have HM:=ak (makeD_is z r m w hz (by omega) (by omega));have hb0:((m:Int)==0)=false:=beq_eq_false_iff_ne.2 (by omega);have hb1:((y:Int)==0)=false:=beq_eq_false_iff_ne.2 (by omega);have hb2:((y:Int)==1)=false:=beq_eq_false_iff_ne.2 (by omega);have HD:=ak (And.intro h0 (And.intro hm (And.intro hox (And.intro hy1 hy))));have HE:=ak em;rw[em];clear hz hx h0 hm hox hy1 hy em hcx
 go_enter Tryz.func110,Tryz.ntmps110
 go_wp2_with fail
 with_reducible refine(HM.out).mono ?_
 rintro e w1 ⟨g,L,rfl,hm,hb⟩;have HX1:=ak (HX.out.below hb);have HC1:=ak ((Chg.refl r w).below hb);obtain⟨hR,hg1,hg2,hoL,hrg⟩:=hm;have em:=HE.out;obtain⟨hd0,hd1,hox,hy1,hy⟩:=HD.out;obtain⟨p',cx',e1,e2,hrx,hobx,hlx,-,hfx⟩:=HX1.out.open_ (by omega);obtain rfl:p=p':=Option.some.inj e2;obtain rfl:cx=cx':=by injection e1
 obtain⟨s,k,U,hs,hk1,hk2,hkU,hyU,hs1,hs2⟩:=top_word y (by omega) hy;have hq:Calls Tryz.prog 133 #[.slice (some ⟨g,0,none⟩) m L.length,.int .u64 0,.slice (some ⟨p,0,none⟩) m cx,.int .u64 (y:Int)] w1 fun e w'=>(∃r:Nat,r<18446744073709551616∧e= .returned (.int .u64 (r:Int)))∧RowAt w' g (L64.seg L 0 (L64.divT x y) 0 m)∧Only g w1 w':=by
  by_cases h1:m=1
  ·subst h1
   match x,em,hox,hrx with
   | [a],_,hox,hrx=>
    have ha:=hox a (by simp);obtain⟨A,rfl⟩: ∃A:Nat,a=(A:Int):=⟨a.toNat,by omega⟩
    exact divWVW_one g p L.length cx y L A w1 hR hg1 hrx (by omega) (by omega)
  ·have:=divWVW_many g p L.length cx y s (64-s) U k L x w1 hR (by omega) hg2 hrx hobx.lt hox (by omega) hs (by omega) hyU hk1 hk2 hkU (by omega) hy (by omega) (by omega);rw[em]at this;exact this
 have hsr:=seg_row (L:=L) (T:=L64.divT x y) (n:=m) (by rw[L64.divT,L64.mk_len];exact em) hg1;have HQ:=ak hq;have HF:=ak (fun w2 (hR2:RowAt w2 g (L64.seg L 0 (L64.divT x y) 0 m)) (hO2:Only g w1 w2)=>(show Calls Tryz.prog 51 #[.slice (some ⟨g,0,none⟩) m L.length] w2 fun e w'=>∃v r',e= .returned v∧Row w' v r' (L64.lim (L64.val x/y))∧New w r r'∧Chg r w w' from by
  have hf:=fin_is (wb:=w) (r:=r) (n:=L64.val x/y) (M:=m) hR2 (by rw[hsr.1];exact hg1) (by rw[hsr.1];exact hg2) (L64.seg_ok 0 0 m hoL (L64.divT_ok hox (by omega))) (by rw[hsr.2];exact L64.divT_val (by omega)) hrg (HC1.out.only hO2 hrg);rw[hsr.1]at hf;exact hf))
 clear em hd0 hd1 hox hy1 hy hR hg1 hg2 hoL hrg e1 e2 hrx hobx hlx hfx hq hsr hs hk1 hk2 hkU hyU hs1 hs2 hb HX HM HX1 HC1
 go_wp2_with fail
 refine HQ.out.mono ?_;rintro e w2 ⟨⟨rem,hrem,rfl⟩,hR2,hO2⟩;have HF2:=ak (HF.out w2 hR2 hO2);have HRm:=ak hrem;clear hR2 hO2 HF HQ hrem
 go_wp2_with fail
 refine HF2.out.mono ?_;rintro e w6 ⟨v,r',rfl,h1,h2,h3⟩;have H:=ak (And.intro h1 (And.intro h2 h3));clear h1 h2 h3 HF2
 go_wp2_with fail
 go_ret2
 exact⟨_,_,_,rfl,HRm.out,H.out⟩
set_option maxRecDepth 100000 in
theorem divW_one(z vx:Value)(r rx:Option Nat)(x:List Int)(w:World)(hz:Dst w z r)(hx:Opd w vx rx x)(hm:x.length≤800)(hox:L64.Ok x):
 Calls Tryz.prog 110 #[z,vx,.int .u64 1] w fun e w'=>∃v r' rem,e= .returned (.tuple #[v,.int .u64 ((rem:Nat):Int)])∧rem<18446744073709551616∧Row w' v r' x∧New w r r'∧Chg r w w':=by
 have HQ:=ak (set_is z vx r rx x w hz hx (by omega) hox);obtain⟨A,c,rfl⟩:=hx.slice;clear hz hx hm hox
 go_enter Tryz.func110,Tryz.ntmps110
 go_wp2_with fail
 refine HQ.out.mono ?_;rintro e w6 ⟨v,r',rfl,h1,h2,h3⟩;have H:=ak (And.intro h1 (And.intro h2 h3));clear h1 h2 h3 HQ
 go_wp2_with fail
 go_ret2
 exact⟨_,_,0,rfl,by omega,H.out⟩
set_option maxRecDepth 100000 in
theorem divW_zero(z vx:Value)(r:Option Nat)(y:Nat)(w:World)(hz:Dst w z r)(hx: ∃A c,vx= .slice A 0 c)(hy1:1<y):
 Calls Tryz.prog 110 #[z,vx,.int .u64 (y:Int)] w fun e w'=>∃v r' rem,e= .returned (.tuple #[v,.int .u64 ((rem:Nat):Int)])∧rem<18446744073709551616∧Row w' v r' []∧New w r r'∧Chg r w w':=by
 obtain⟨A,c,rfl⟩:=hx;have HC:=ak (Chg.refl r w);have hb1:((y:Int)==0)=false:=beq_eq_false_iff_ne.2 (by omega);have hb2:((y:Int)==1)=false:=beq_eq_false_iff_ne.2 (by omega);rcases hz with⟨rfl,rfl⟩|⟨g,m,L,rfl,hR,hm,hL,hok,rfl⟩
 ·clear hy1
  go_enter Tryz.func110,Tryz.ntmps110
  go_wp2_with fail
  go_ret2
  exact⟨_,none,0,rfl,by omega,.inl ⟨rfl,rfl,rfl⟩,.inl rfl,HC.out⟩
 ·have HF:=ak (Row.of hR (Nat.zero_le _) hL hok);have h1:(0:Int)≤(L.length:Int):=by omega
  clear hR hm hL hok hy1
  go_enter Tryz.func110,Tryz.ntmps110
  go_wp2_with fail
  go_ret2
  exact⟨_,some g,0,rfl,by omega,HF.out,.inl rfl,HC.out⟩
theorem divW_is(z vx:Value)(r rx:Option Nat)(a y:Nat)(w:World)(hz:Dst w z r)(hx:Opd w vx rx (L64.lim a))(hm:(L64.lim a).length≤800)(hy0:0<y)(hy:y<256):
 Calls Tryz.prog 110 #[z,vx,.int .u64 (y:Int)] w fun e w'=>∃v r' rem,e= .returned (.tuple #[v,.int .u64 ((rem:Nat):Int)])∧rem<18446744073709551616∧Row w' v r' (L64.lim (a/y))∧New w r r'∧Chg r w w':=by
 by_cases h1:y=1
 ·subst h1;rw[Nat.div_one];exact divW_one z vx r rx _ w hz hx hm (L64.ok_lim a)
 ·by_cases h0:0<(L64.lim a).length
  ·have:=divW_pos z vx r rx _ y w hz hx h0 hm (L64.ok_lim a) (by omega) hy;rw[L64.val_lim]at this;exact this
  ·have ha:L64.lim a= []:=List.length_eq_zero_iff.1 (by omega);obtain rfl:a=0:=L64.lim_eq_nil.1 ha;rw[ha]at hx;rw[Nat.zero_div,L64.lim_zero];exact divW_zero z vx r y w hz hx.slice (by omega)
set_option maxRecDepth 100000 in
theorem natDiv_is(z vx vy:Value)(r rx ry:Option Nat)(a y:Nat)(w:World)(hz:Dst w z r)(hx:Opd w vx rx (L64.lim a))(hvy:Opd w vy ry (L64.lim y))(hm:(L64.lim a).length≤800)(hy0:0<y)(hy:y<256):
 Calls Tryz.prog 89 #[z,.pointer none,.slice none 0 0,vx,vy] w fun e w'=>∃v r' v2,e= .returned (.tuple #[v,v2])∧Row w' v r' (L64.lim (a/y))∧New w r r'∧Chg r w w':=by
 have HQ:=ak (divW_is z vx r rx a y w hz hx hm hy0 hy);have hyl:L64.lim y= [(y:Int)]:=by rw[L64.lim_pos (by omega),Nat.mod_eq_of_lt (by omega),Nat.div_eq_of_lt (by omega),L64.lim_zero]
 rw[hyl]at hvy;obtain⟨q,cy,rfl,-,hry,-,-,-,-⟩:=hvy.open_ (by simp);have hc:w.cell? ⟨q,0,none⟩=some (.int .u64 (y:Int)):=hry.2 0 (by simp);obtain⟨A,c,rfl⟩:=hx.slice;rw[show([(y:Int)]).length=1 from rfl];clear hz hx hvy hm hy0 hy hyl hry
 go_enter Tryz.func89,Tryz.ntmps89
 go_wp2_with fail
 refine HQ.out.mono ?_;rintro e w1 ⟨v,r',rem,rfl,h0,h1,h2,h3⟩;have HS:=ak (setWord_is (.slice none 0 0) none rem w1 (.inl ⟨rfl,rfl⟩) h0);have H:=ak (And.intro h1 (And.intro h2 h3));clear h0 h1 h2 h3 HQ hc
 go_wp2_with fail
 refine HS.out.mono ?_;rintro e w2 ⟨v2,r2,rfl,-,-,hC⟩
 have H2:=ak (show Row w2 v r' (L64.lim (a/y))∧New w r r'∧Chg r w w2 from
  ⟨H.out.1.move (fun g e=>hC.block g (by have h:=H.out.1.opd;subst e;exact h.lt) (by simp)),H.out.2.1,H.out.2.2.trans hC (.inr (fun g h=>by cases h))⟩)
 clear hC H HS
 go_wp2_with fail
 go_ret2
 exact⟨_,_,_,rfl,H2.out⟩
end Go.Proofs.YthlakefgobflnaaGreatDoor.G
namespace Go.Proofs.YthlakefgobflnaaGreatDoor.G
open Go.RowKit Go.Proofs.YthlakefgobflnaaGreatDoorW.PrintWords Go.Proofs.YthlakefgobflnaaGreatDoorW.PrintLast Go.Proofs.YthlakefgobflnaaGreatDoorW.PrintMore Go.Proofs.YthlakefgobflnaaGreatDoor.S
set_option linter.unusedVariables false
set_option linter.unusedSimpArgs false
set_option maxRecDepth 100000 in
theorem same_no(A1 A2:Option Addr)(n1 n2 c1 c2:Nat)(w:World)(h: ¬(n1=n2∧0<n1)):
 Calls Tryz.prog 53 #[.slice A1 n1 c1,.slice A2 n2 c2] w fun e w'=>e= .returned (.bool false)∧Below w.heap.size w w':=by
 have HB:=ak (Below.refl w.heap.size w);by_cases h1:n1=n2
 ·have h2:n1=0:=by omega
  subst h1;subst h2;clear h
  go_enter Tryz.func53,Tryz.ntmps53
  go_wp2_with fail
  refine sta (fun _=>True) [] trivial (fun hHeld=>?_);repeat(first|refine pu 0 ?_|refine un 0 ?_)
  refine done_ (by decide+kernel) ?_
  go_wp2_with fail
  go_ret
  exact⟨rfl,below_drew HB.out⟩
 ·have a1:((n1:Int)==(n2:Int))=false:=beq_eq_false_iff_ne.2 (by omega);clear h
  go_enter Tryz.func53,Tryz.ntmps53
  go_wp2_with fail
  refine sta (fun _=>True) [] trivial (fun hHeld=>?_);repeat(first|refine pu 0 ?_|refine un 0 ?_)
  refine done_ (by decide+kernel) ?_
  go_wp2_with fail
  go_ret
  exact⟨rfl,below_drew HB.out⟩
set_option maxRecDepth 100000 in
theorem same_is(g p n c1 c2:Nat)(b:Bool)(w:World)(h0:0<n)(hg:Ob w g)(hp:Ob w p)(hb:decide (p=g)=b):
 Calls Tryz.prog 53 #[.slice (some ⟨g,0,none⟩) n c1,.slice (some ⟨p,0,none⟩) n c2] w fun e w'=>e= .returned (.bool b)∧Below w.heap.size w w':=by
 have HB:=ak (Below.refl w.heap.size w);have HN:=ak (eql_at g 0 p 0 hg hp (fun _=>rfl));rw[hb]at HN;have a1:((n:Int)==(n:Int))=true:=by simp
 have a2:decide ((n:Int)>0)=true:=decide_eq_true (by omega);have a3:decide (0<n)=true:=decide_eq_true h0;have a4:(0:Int)<(n:Int):=by omega
 clear hg hp hb
 go_enter Tryz.func53,Tryz.ntmps53
 go_wp2_with fail
 go_region_held3 (fun w'=>(binOp .eql 112 (.pointer (some ⟨g,0,none⟩)) (.pointer (some ⟨p,0,none⟩))).run Tryz.prog w'= .ok (.bool b) w') (first|exact HN.out _ rfl|go_keep) (fail)
 go_wp2_with fail
 go_ret
 exact⟨rfl,below_drew HB.out⟩
set_option maxRecDepth 100000 in
theorem alias_no(B:Option Addr)(k:Nat)(A:Option Addr)(n c:Nat)(w:World):Calls Tryz.prog 54 #[.slice B k 0,.slice A n c] w fun e w'=>e= .returned (.bool false)∧Below w.heap.size w w':=by
 have HB:=ak (Below.refl w.heap.size w)
 go_enter Tryz.func54,Tryz.ntmps54
 go_wp2_with fail
 refine sta (fun _=>True) [] trivial (fun hHeld=>?_);repeat(first|refine pu 0 ?_|refine un 0 ?_)
 refine done_ (by decide+kernel) ?_
 go_wp2_with fail
 go_ret
 exact⟨rfl,below_drew HB.out⟩
set_option maxRecDepth 100000 in
theorem natLsh0_new(vx:Value)(rx:Option Nat)(a:Nat)(w:World)(hx:Opd w vx rx (L64.lim a))(hm:(L64.lim a).length≤800):
 Calls Tryz.prog 39 #[.slice none 0 0,vx,.int .u64 0] w fun e w'=>∃v r',e= .returned v∧Row w' v r' (L64.lim a)∧New w none r'∧Chg none w w':=by
 obtain⟨A,c,rfl⟩:=hx.slice;have HQ:=ak (fun w1 (hb:Below w.heap.size w w1)=>set_is (.slice none 0 0) _ none rx _ w1 (.inl ⟨rfl,rfl⟩) (hx.below hb) (Nat.le_trans hm (by omega)) (L64.ok_lim a));have HS:=ak (same_no none A 0 (L64.lim a).length 0 c w (by omega));have HB:=ak (Below.refl w.heap.size w);obtain⟨l,hl⟩: ∃l,L64.lim a=l:=⟨_,rfl⟩
 rw[hl]at HQ HS⊢;obtain⟨n,hn⟩: ∃n,l.length=n:=⟨_,rfl⟩
 rw[hn]at HQ HS⊢;clear hx hm hl hn
 go_enter Tryz.func39,Tryz.ntmps39
 go_wp2_with fail
 refine HS.out.mono ?_;rintro e w1 ⟨rfl,hb⟩;have HB1:=ak (below_step HB.out hb);clear hb
 go_wp2_with fail
 refine(alias_nil _ _ _ _).mono ?_;rintro e w2 ⟨rfl,hb⟩;have HB2:=ak (below_step HB1.out hb);clear hb
 go_wp2_with fail
 refine(HQ.out w2 HB2.out).mono ?_;rintro e w3 ⟨v,r',rfl,hR,hN,hC⟩;have HF:=ak (And.intro hR (And.intro hN hC));clear hR hN hC
 go_wp2_with fail
 go_ret
 exact⟨_,_,rfl,HF.out.1,HF.out.2.1.elim .inl (fun h=>.inr (fun g e=>Nat.le_trans HB2.out.size (h g e))),(Chg.of none HB2.out).trans HF.out.2.2 (.inl rfl)⟩
set_option maxRecDepth 100000 in
theorem natLsh0_own(v:Value)(r:Option Nat)(a:Nat)(w:World)(hz:Row w v r (L64.lim a))(hm:(L64.lim a).length≤800):
 Calls Tryz.prog 39 #[v,v,.int .u64 0] w fun e w'=>∃v r',e= .returned v∧Row w' v r' (L64.lim a)∧New w r r'∧Chg r w w':=by
 have HB:=ak (Below.refl w.heap.size w);have HZ:=ak hz;by_cases h0:0<(L64.lim a).length
 ·obtain⟨p,c,rfl,rfl,-,hob,-⟩:=hz.opd.open_ h0;have HS:=ak (same_is p p (L64.lim a).length c c true w h0 hob hob (decide_eq_true rfl));have HF:=ak (fun w1 (hb:Below w.heap.size w w1)=>show Row w1 _ _ _ from hz.move (fun g e=>hb.block g (by obtain rfl:=Option.some.inj e;exact hob.lt)));generalize (L64.lim a).length=n at*;clear hz hm hob
  go_enter Tryz.func39,Tryz.ntmps39
  go_wp2_with fail
  refine HS.out.mono ?_;rintro e w1 ⟨rfl,hb⟩;have HB1:=ak (below_step HB.out hb);clear hb
  go_wp2_with fail
  go_ret
  exact⟨_,_,rfl,HF.out _ HB1.out,.inl rfl,Chg.of _ HB1.out⟩
 ·have hl:L64.lim a= []:=List.length_eq_zero_iff.1 (by omega);rw[hl]at hz⊢;have HQ:=ak (fun w1 (hb:Below w.heap.size w w1)=>set_nil v v r w1 (hz.below hb).dst hz.opd.slice);have HR:=ak (fun w1 (hb:Below w.heap.size w w1)=>hz.below hb);have HA:Aside0 (∀w1,Below w.heap.size w w1→Calls Tryz.prog 54 #[v,v] w1 fun e w'=>∃b,e= .returned (.bool b)∧Below w1.heap.size w1 w'):=by
   refine⟨fun w1 hb=>?_⟩;rcases hz.below hb with⟨rfl,-,-⟩|⟨g,L,rfl,hR,-,hL,-,-⟩
   ·exact(alias_nil _ _ _ _).mono fun e w' h=>⟨_,h⟩
   ·by_cases hL0:0<L.length
    ·exact(alias_is g g _ _ _ _ true w1 hL0 hL0 (by omega) (by omega) hR.ob hR.ob (fun _=>rfl) (decide_eq_true rfl)).mono fun e w' h=>⟨_,h⟩
    ·rw[show L.length=0 by omega];exact(alias_no _ _ _ _ _ _).mono fun e w' h=>⟨_,h⟩
  obtain⟨A,c,rfl⟩:=hz.opd.slice;have HS:=ak (same_no A A 0 0 c c w (by omega));have HV:=ak (show∀w1,Below w.heap.size w w1→∃r',Row w1 (.slice A 0 c) r' []∧r'=r from fun w1 hb=>⟨r,hz.below hb,rfl⟩);change Calls Tryz.prog 39 #[.slice A 0 c,.slice A 0 c,.int .u64 0] _ _
  change Aside0 (∀w1,Below w.heap.size w w1→Calls Tryz.prog 54 #[.slice A 0 c,.slice A 0 c] w1 _)at HA;change Aside0 (∀w1,Below w.heap.size w w1→Calls Tryz.prog 55 #[.slice A 0 c,.slice A 0 c] w1 _)at HQ;have k0:(0:Int)≤(c:Int):=by omega
  clear hz hm hl h0
  go_enter Tryz.func39,Tryz.ntmps39
  go_wp2_with fail
  refine HS.out.mono ?_;rintro e w1 ⟨rfl,hb⟩;have HB1:=ak (below_step HB.out hb);clear hb
  go_wp2_with fail
  refine(HA.out w1 HB1.out).mono ?_;rintro e w2 ⟨b,rfl,hb⟩;have HB2:=ak (below_step HB1.out hb);clear hb;cases b
  ·go_wp2_with fail
   refine(HQ.out w2 HB2.out).mono ?_;rintro e w3 ⟨v,rfl,hR,hb⟩;have HF:=ak hR;have HB3:=ak (below_step HB2.out hb);clear hR hb
   go_wp2_with fail
   go_ret
   exact⟨_,_,rfl,HF.out,.inl rfl,Chg.of _ HB3.out⟩
  ·go_wp2_with fail
   go_ret
   exact⟨_,_,rfl,HR.out _ HB2.out,.inl rfl,Chg.of _ HB2.out⟩
theorem natLsh_own(v:Value)(r:Option Nat)(a n:Nat)(w:World)(hz:Row w v r (L64.lim a))(hm:(L64.lim a).length≤800)(hn2:n≤6400):
 Calls Tryz.prog 39 #[v,v,.int .u64 (n:Int)] w fun e w'=>∃v r',e= .returned v∧Row w' v r' (L64.lim (a*2^n))∧New w r r'∧Chg r w w':=by
 by_cases h:n=0
 ·subst h;rw[Nat.pow_zero,Nat.mul_one];exact natLsh0_own v r a w hz hm
 ·exact natLsh_is v v r r a n w hz.dst hz.opd hm (by omega) hn2
theorem natLsh_new(z vx:Value)(r rx:Option Nat)(l0:List Int)(a n:Nat)(w:World)(hz:Row w z r l0)(hx:Opd w vx rx (L64.lim a))(hm:(L64.lim a).length≤800)(hn:0<n∨z= .slice none 0 0)(hn2:n≤6400):
 Calls Tryz.prog 39 #[z,vx,.int .u64 (n:Int)] w fun e w'=>∃v r',e= .returned v∧Row w' v r' (L64.lim (a*2^n))∧New w r r'∧Chg r w w':=by
 by_cases h:n=0
 ·subst h;rw[Nat.pow_zero,Nat.mul_one];obtain rfl:=hn.resolve_left (by omega);obtain rfl:r=none:=by
   rcases hz with⟨-,h,-⟩|⟨g,L,h,-⟩
   ·exact h
   ·cases h
  exact natLsh0_new vx rx a w hx hm
 ·exact natLsh_is z vx r rx a n w hz.dst hx hm (by omega) hn2
end Go.Proofs.YthlakefgobflnaaGreatDoor.G
