/- CONTRACTS: division by a word of at most eight bits. -/
import Derived.Test.YthlakefgobflnaaGreatDoorBbe
import Derived.Laws.Bits64
namespace Go.Proofs.YthlakefgobflnaaGreatDoor.G
open Go.RowKit Go.Proofs.YthlakefgobflnaaGreatDoorW.PrintWords Go.Proofs.YthlakefgobflnaaGreatDoorW.PrintLast Go.Proofs.YthlakefgobflnaaGreatDoorW.PrintMore Go.Proofs.YthlakefgobflnaaGreatDoor.S
set_option linter.unusedVariables false
set_option linter.unusedSimpArgs false
theorem lz64_is(x:Int)(w:World)(h0:0≤x)(h1:x≤18446744073709551615):
 Calls Tryz.prog 162 #[.int .u64 x] w fun e w'=>e= .returned (.int .i64 ((64-Lib.bitLen x.toNat:Nat):Int))∧w'=w:=by
 have HQ:=ak (fun w0=>len64_is x w0 h0 h1);have HE:=ak (show wrap64 (64-(Lib.bitLen x.toNat:Int))=((64-Lib.bitLen x.toNat:Nat):Int) by have:=bitLen_le64 x.toNat;unfold wrap64;omega);clear h0 h1
 go_enter Tryz.func162,Tryz.ntmps162
 go_wp2_with fail
 refine(HQ.out _).mono ?_;rintro e w1 ⟨rfl,rfl⟩
 go_wp2_with fail
 rw[HE.out]
 go_ret
 exact⟨rfl,rfl⟩
theorem bits8: ∀k,k<256→0<k→1≤Lib.bitLen k∧Lib.bitLen k≤8∧128≤k*2^(8-Lib.bitLen k)∧k*2^(8-Lib.bitLen k)<256:=by decide+kernel
theorem bits_top(k:Nat)(h1:128≤k)(h2:k<256):Lib.bitLen (k*72057594037927936)=64:=by
 rw[Lib.bitLen_shift56 _ (by omega) (by omega),show k*72057594037927936/72057594037927936=k by omega];have: ∀k,k<256→128≤k→Lib.bitLen k=8:=by decide+kernel
 rw[this k h2 h1]
set_option maxRecDepth 100000 in
theorem bitsDiv64_low(lo y:Nat)(w:World)(hy:0<y)(hl:lo<18446744073709551616):
 Calls Tryz.prog 160 #[.int .u64 0,.int .u64 (lo:Int),.int .u64 (y:Int)] w fun e w'=>e= .returned (.tuple #[.int .u64 ((lo/y:Nat):Int),.int .u64 ((lo%y:Nat):Int)])∧Below w.heap.size w w':=by
 have HB:=ak (Below.refl w.heap.size w);have c0:((y:Int)==0)=false:=beq_eq_false_iff_ne.2 (by omega);have c1:decide ((y:Int)≤0)=false:=decide_eq_false (by omega);have c2: ¬(y=0):=by omega
 have c3: ¬((y:Int)=0):=by omega
 have q1:IntKind.u64.wrap ((lo:Int).tdiv (y:Int))=((lo/y:Nat):Int):=by
  rw[Int.tdiv_eq_ediv_of_nonneg (by omega),←Int.natCast_ediv];exact Lm.wrap_nat (Nat.lt_of_le_of_lt (Nat.div_le_self _ _) hl)
 have q1':IntKind.u64.wrap ((lo:Int)/(y:Int))=((lo/y:Nat):Int):=by
  rw[←Int.natCast_ediv];exact Lm.wrap_nat (Nat.lt_of_le_of_lt (Nat.div_le_self _ _) hl)
 have q3':(lo:Int)%(y:Int)=((lo%y:Nat):Int):=(Int.natCast_emod _ _).symm;have q2:IntKind.u64.wrap ((lo:Int).tmod (y:Int))=((lo%y:Nat):Int):=by
  rw[Int.tmod_eq_emod_of_nonneg (by omega),←Int.natCast_emod];exact Lm.wrap_nat (Nat.lt_of_le_of_lt (Nat.mod_le _ _) hl)
 have q3:(lo:Int).tmod (y:Int)=((lo%y:Nat):Int):=by
  rw[Int.tmod_eq_emod_of_nonneg (by omega),←Int.natCast_emod]
 generalize ((lo/y:Nat):Int)=u at*;generalize ((lo%y:Nat):Int)=v at*;clear hy hl
 go_enter Tryz.func160,Tryz.ntmps160
 go_wp2_with fail
 go_region
 all_goals(go_wp2_with fail)
 all_goals(go_ret2;exact⟨rfl,below_drew HB.out⟩)
theorem top_core(D E Y H q t R c s:Nat)(hE:E+1=D)(hY:0<Y)(eH:H+Y*D+1=D*D)(e1:Y*q+t=H)(hR:t*D+E=R)(e2:Y*c+s=R)(hs:s<Y):(D*D*(D*D)-1)/(Y*D)-D*D=q*D+c:=by
 have hD:0<D:=by omega
 have e3:D*D*(D*D)=1+((s*D+E)+Y*D*(q*D+c+D*D)):=by
  subst hE;have h1:(H+Y*(E+1)+1)*((E+1)*(E+1))=(E+1)*(E+1)*((E+1)*(E+1)):=by rw[eH]
  rw[←h1,←e1];have h2:(t*(E+1)+E)*(E+1)=(Y*c+s)*(E+1):=by rw[hR,e2]
  grind
 have h4:s*D+E<Y*D:=by
  have:(s+1)*D≤Y*D:=Nat.mul_le_mul_right _ hs;rw[Nat.add_mul]at this;omega
 rw[e3,Nat.add_sub_cancel_left,Nat.add_mul_div_left _ _ (Nat.mul_pos hY hD),Nat.div_eq_of_lt h4];omega
theorem wrap3(a b c:Int):IntKind.u64.wrap (IntKind.u64.wrap (IntKind.u64.wrap a+b)-IntKind.u64.wrap c)=IntKind.u64.wrap (a+b-c):=by
 simp only[IntKind.wrap_u64];omega
theorem wrap_eq{a:Int}{n:Nat}(h:a=(n:Int))(hn:n<18446744073709551616):IntKind.u64.wrap a=(n:Int):=by
 rw[h];exact Lm.wrap_nat hn
theorem sub_nat{a b c:Nat}(h:b+c=a):(a:Int)-(b:Int)=(c:Int):=by omega
theorem top_nums(Y H U:Nat)(hYU:Y*4294967296=U)(h1:2147483648≤Y)(h2:Y<4294967296)(hH:H+U+1=18446744073709551616):
 ∃Y1 q1 p1 rh a1 a2 b1 b2 b3 R1 q0 p0 rh0 d1 d2 z:Int,(U:Int)/4294967296=Y1∧Go.bits .and .u64 (U:Int) 4294967295=0∧Go.bits .or .u64 (H:Int) 0=(H:Int)∧Go.bits .and .u64 18446744073709551615 4294967295=4294967295∧
  IntKind.u64.wrap ((H:Int).tdiv Y1)=q1∧IntKind.u64.wrap (q1*Y1)=p1∧IntKind.u64.wrap ((H:Int)-p1)=rh∧decide (q1≥4294967296)=false∧
  IntKind.u64.wrap (4294967296*rh)=a1∧IntKind.u64.wrap (a1+4294967295)=a2∧decide (0>a2)=false∧
  IntKind.u64.wrap ((H:Int)*4294967296)=b1∧IntKind.u64.wrap (b1+4294967295)=b2∧IntKind.u64.wrap (q1*(U:Int))=b3∧IntKind.u64.wrap (b2-b3)=R1∧
  IntKind.u64.wrap (R1.tdiv Y1)=q0∧IntKind.u64.wrap (q0*Y1)=p0∧IntKind.u64.wrap (R1-p0)=rh0∧decide (q0≥4294967296)=false∧
  IntKind.u64.wrap (4294967296*rh0)=d1∧IntKind.u64.wrap (d1+4294967295)=d2∧decide (0>d2)=false∧
  IntKind.u64.wrap (q1*4294967296)=z∧IntKind.u64.wrap (z+q0)=(((18446744073709551616*18446744073709551616-1)/U-18446744073709551616:Nat):Int)∧Y1≠0:=by
 have hY0:0<Y:=by omega
 obtain⟨q,hq⟩: ∃q,H/Y=q:=⟨_,rfl⟩
 obtain⟨t,ht⟩: ∃t,H%Y=t:=⟨_,rfl⟩
 have e1:=Nat.div_add_mod H Y;rw[hq,ht]at e1;have htY:t<Y:=by rw[←ht];exact Nat.mod_lt _ hY0
 have hq2:q<4294967296:=by
  rw[←hq];exact Nat.div_lt_of_lt_mul (by omega)
 obtain⟨R,hR⟩: ∃R,t*4294967296+4294967295=R:=⟨_,rfl⟩
 obtain⟨c,hc⟩: ∃c,R/Y=c:=⟨_,rfl⟩
 obtain⟨s,hs⟩: ∃s,R%Y=s:=⟨_,rfl⟩
 have e2:=Nat.div_add_mod R Y;rw[hc,hs]at e2;have hsY:s<Y:=by rw[←hs];exact Nat.mod_lt _ hY0
 have hc2:c<4294967296:=by
  rw[←hc];exact Nat.div_lt_of_lt_mul (by omega)
 have hqU:q*U=Y*q*4294967296:=by rw[←hYU,←Nat.mul_assoc,Nat.mul_comm q Y]
 have hfin:(18446744073709551616*18446744073709551616-1)/U-18446744073709551616=q*4294967296+c:=by
  have:=top_core 4294967296 4294967295 Y H q t R c s rfl hY0 (by omega) e1 hR e2 hsY;rw[hYU]at this;exact this
 rw[hfin];have f1:(U:Int)/4294967296=(Y:Int):=by omega
 have f2:Go.bits .and .u64 (U:Int) 4294967295=0:=by
  rw[Lm.and32 U (by omega)];have:U%4294967296=0:=by omega
  rw[this];rfl
 have f3:Go.bits .or .u64 (H:Int) 0=(H:Int):=by
  have:=Lm.or64 H 0 64 (by have:(2:Nat)^64=18446744073709551616:=rfl;omega) (by omega);rw[Nat.zero_mul,Nat.add_zero]at this;exact this
 have f5:IntKind.u64.wrap ((H:Int).tdiv (Y:Int))=(q:Int):=wrap_eq (by rw[Int.tdiv_eq_ediv_of_nonneg (by omega),←Int.natCast_ediv,hq]) (by omega);have f6:IntKind.u64.wrap ((q:Int)*(Y:Int))=((Y*q:Nat):Int):=wrap_eq (by rw[Int.natCast_mul,Int.mul_comm]) (by omega);have f7:IntKind.u64.wrap ((H:Int)-((Y*q:Nat):Int))=(t:Int):=wrap_eq (sub_nat e1) (by omega);have f9:IntKind.u64.wrap (4294967296*(t:Int))=((4294967296*t:Nat):Int):=wrap_eq (by omega) (by omega);have f10:IntKind.u64.wrap (((4294967296*t:Nat):Int)+4294967295)=(R:Int):=wrap_eq (by omega) (by omega);have f15:IntKind.u64.wrap (IntKind.u64.wrap (IntKind.u64.wrap ((H:Int)*4294967296)+4294967295)-IntKind.u64.wrap ((q:Int)*(U:Int)))=(R:Int):=by
  rw[wrap3];refine wrap_eq ?_ (by omega);rw[←Int.natCast_mul,hqU];clear f6 f7 hqU hfin;generalize Y*q=A at*;omega
 have f16:IntKind.u64.wrap ((R:Int).tdiv (Y:Int))=(c:Int):=wrap_eq (by rw[Int.tdiv_eq_ediv_of_nonneg (by omega),←Int.natCast_ediv,hc]) (by omega);have f17:IntKind.u64.wrap ((c:Int)*(Y:Int))=((Y*c:Nat):Int):=wrap_eq (by rw[Int.natCast_mul,Int.mul_comm]) (by omega);have f18:IntKind.u64.wrap ((R:Int)-((Y*c:Nat):Int))=(s:Int):=wrap_eq (sub_nat e2) (by omega);have f20:IntKind.u64.wrap (4294967296*(s:Int))=((4294967296*s:Nat):Int):=wrap_eq (by omega) (by omega);have f21:IntKind.u64.wrap (((4294967296*s:Nat):Int)+4294967295)=((4294967296*s+4294967295:Nat):Int):=wrap_eq (by omega) (by omega);have f23:IntKind.u64.wrap ((q:Int)*4294967296)=((q*4294967296:Nat):Int):=wrap_eq (by omega) (by omega);have f24:IntKind.u64.wrap (((q*4294967296:Nat):Int)+(c:Int))=((q*4294967296+c:Nat):Int):=wrap_eq (by omega) (by omega);exact⟨_,_,_,_,_,_,_,_,_,_,_,_,_,_,_,_,f1,f2,f3,by decide+kernel,f5,f6,f7,decide_eq_false (by omega),f9,f10,decide_eq_false (by omega),rfl,rfl,rfl,f15,f16,f17,f18,decide_eq_false (by omega),f20,f21,decide_eq_false (by omega),f23,f24,by omega⟩
set_option maxRecDepth 100000 in
theorem bitsDiv64_top(k H U:Nat)(w:World)(h1:128≤k)(h2:k<256)(hU:k*72057594037927936=U)(hH:18446744073709551615-U=H):
 Calls Tryz.prog 160 #[.int .u64 (H:Int),.int .u64 18446744073709551615,.int .u64 (U:Int)] w fun e w'=>∃r,e= .returned (.tuple #[.int .u64 (((18446744073709551616*18446744073709551616-1)/U-18446744073709551616:Nat):Int),.int .u64 r])∧Below w.heap.size w w':=by
 have HB:=ak (Below.refl w.heap.size w);have c0:((U:Int)==0)=false:=beq_eq_false_iff_ne.2 (by omega);have c1:decide ((U:Int)≤(H:Int))=false:=decide_eq_false (by omega);have c2:((H:Int)==0)=false:=beq_eq_false_iff_ne.2 (by omega);have HL:=ak (fun w0=>lz64_is (U:Int) w0 (by omega) (by omega));rw[Int.toNat_natCast,←hU,bits_top k h1 h2,hU]at HL;obtain⟨Y1,q1,p1,rh,a1,a2,b1,b2,b3,R1,q0,p0,rh0,d1,d2,z,g1,g2,g3,g4,g5,g6,g7,g8,g9,g10,g11,g12,g13,g14,g15,g16,g17,g18,g19,g20,g21,g22,g23,g24,g25⟩:=top_nums (k*16777216) H U (by rw[←hU,Nat.mul_assoc]) (by omega) (by omega) (by omega);generalize (((18446744073709551616*18446744073709551616-1)/U-18446744073709551616:Nat):Int)=V at*;have g26:IntKind.u64.wrap (U:Int)=(U:Int):=Lm.wrap_nat (by omega);have g27:IntKind.u64.wrap (H:Int)=(H:Int):=Lm.wrap_nat (by omega);clear h1 h2 hU hH;generalize (U:Int)=u at*;generalize (H:Int)=h at*
 go_enter Tryz.func160,Tryz.ntmps160
 go_wp2_with fail
 refine(HL.out _).mono ?_;rintro e w1 ⟨rfl,rfl⟩
 go_wp2_with fail
 go_loopg [15,16] 0 (fun kq v15 v16 w'=>v15= .int .u64 q1∧v16= .int .u64 rh∧Aside0 (Below w1.heap.size w1 w'))
 case atStart=>exact⟨rfl,rfl,HB⟩
 case round=>
  obtain⟨rfl,rfl,HB⟩:=hrel
  go_wp2_with fail
  go_loopg [16,18] 0 (fun kq v16 v18 w'=>v16= .int .u64 rh0∧v18= .int .u64 q0∧Aside0 (Below w1.heap.size w1 w'))
  case atStart=>exact⟨rfl,rfl,HB⟩
  case round=>
   obtain⟨rfl,rfl,HB⟩:=hrel
   go_wp2_with fail
   go_ret2
   exact⟨_,rfl,HB.out⟩
theorem bitsDiv_low(lo y:Nat)(w:World)(hy:0<y)(hl:lo<18446744073709551616):
 Calls Tryz.prog 149 #[.int .u64 0,.int .u64 (lo:Int),.int .u64 (y:Int)] w fun e w'=>e= .returned (.tuple #[.int .u64 ((lo/y:Nat):Int),.int .u64 ((lo%y:Nat):Int)])∧Below w.heap.size w w':=by
 have HQ:=ak (fun w0=>bitsDiv64_low lo y w0 hy hl);have HB:=ak (Below.refl w.heap.size w);clear hy hl;generalize ((lo/y:Nat):Int)=u at*;generalize ((lo%y:Nat):Int)=v at*
 go_enter Tryz.func149,Tryz.ntmps149
 go_wp2_with fail
 refine(HQ.out _).mono ?_;rintro e w1 ⟨rfl,hb⟩;have HB1:=ak (below_step HB.out hb);clear hb
 go_wp2_with fail
 go_ret2
 exact⟨rfl,HB1.out⟩
theorem bitsDiv_top(k H U:Nat)(w:World)(h1:128≤k)(h2:k<256)(hU:k*72057594037927936=U)(hH:18446744073709551615-U=H):
 Calls Tryz.prog 149 #[.int .u64 (H:Int),.int .u64 18446744073709551615,.int .u64 (U:Int)] w fun e w'=>∃r,e= .returned (.tuple #[.int .u64 (((18446744073709551616*18446744073709551616-1)/U-18446744073709551616:Nat):Int),.int .u64 r])∧Below w.heap.size w w':=by
 have HQ:=ak (fun w0=>bitsDiv64_top k H U w0 h1 h2 hU hH);have HB:=ak (Below.refl w.heap.size w);clear h1 h2 hU hH;generalize (((18446744073709551616*18446744073709551616-1)/U-18446744073709551616:Nat):Int)=u at*
 go_enter Tryz.func149,Tryz.ntmps149
 go_wp2_with fail
 refine(HQ.out _).mono ?_;rintro e w1 ⟨r,rfl,hb⟩;have HB1:=ak (below_step HB.out hb);clear hb
 go_wp2_with fail
 go_ret2
 exact⟨_,rfl,HB1.out⟩
theorem top_word(y:Nat)(h0:0<y)(h1:y<256): ∃s k U,64-Lib.bitLen y=s∧128≤k∧k<256∧k*72057594037927936=U∧y*2^s=U∧56≤s∧s<64:=by
 obtain⟨a,b,c,d⟩:=bits8 y h1 h0;refine⟨_,_,_,rfl,c,d,rfl,?_,by omega,by omega⟩;rw[show 64-Lib.bitLen y=(8-Lib.bitLen y)+56 by omega,Nat.pow_add,←Nat.mul_assoc]
theorem not_nat(U:Nat)(h:U<2^64):(2^64-1)^^^U=2^64-1-U:=by
 apply Nat.eq_of_testBit_eq;intro i;rw[Nat.testBit_xor,Nat.testBit_two_pow_sub_one];have:=Nat.testBit_two_pow_sub_succ h i;rw[show 2^64-1-U=2^64-(U+1) by omega,this];by_cases hi:i<64
 ·simp[hi]
 ·simp[hi];exact Nat.testBit_lt_two_pow (Nat.lt_of_lt_of_le h (Nat.pow_le_pow_right (by omega) (by omega)))
theorem not_u64(U:Nat)(h:U<18446744073709551616):Go.bits .xor .u64 IntKind.u64.max (U:Int)=((18446744073709551615-U:Nat):Int):=by
 have e:=bits_xor_u64_nat 18446744073709551615 U (by omega) h;rw[show IntKind.u64.max=((18446744073709551615:Nat):Int)from rfl,e];exact congrArg _ (not_nat U h)
def rec8(U:Nat):Nat:=(18446744073709551616*18446744073709551616-1)/U-18446744073709551616
set_option maxRecDepth 100000 in
theorem recip_is(y s k U:Nat)(w:World)(hs:64-Lib.bitLen y=s)(h1:128≤k)(h2:k<256)(hU:k*72057594037927936=U)(hy:y*2^s=U)(hy0:y<256)(hs2:s<64):
 Calls Tryz.prog 150 #[.int .u64 (y:Int)] w fun e w'=>e= .returned (.int .u64 (rec8 U:Int))∧Below w.heap.size w w':=by
 have HB:=ak (Below.refl w.heap.size w);have HL:=ak (fun w0=>nlz_is (y:Int) w0 (by omega) (by omega));rw[Int.toNat_natCast,hs]at HL;have HQ:=ak (fun w0=>bitsDiv_top k (18446744073709551615-U) U w0 h1 h2 hU rfl);rw[show(18446744073709551616*18446744073709551616-1)/U-18446744073709551616=rec8 U from rfl]at HQ;have e1:IntKind.u64.wrap ((y:Int)*2^s)=(U:Int):=wrap_eq (by rw[←hy,Int.natCast_mul,Int.natCast_pow];rfl) (by omega);have e2:=not_u64 U (by omega);have s1:(s:Int)<64:=by omega
 have s2:(0:Int)≤(s:Int):=by omega
 generalize ((18446744073709551615-U:Nat):Int)=v at*;clear hs h1 h2 hU hy hy0 hs2
 go_enter Tryz.func150,Tryz.ntmps150
 go_wp2_with fail
 refine(HL.out _).mono ?_;rintro e w1 ⟨rfl,rfl⟩
 go_wp2_with fail
 refine(HQ.out _).mono ?_;rintro e w2 ⟨r,rfl,hb⟩;have HB1:=ak (below_step HB.out hb);clear hb
 go_wp2_with fail
 go_ret
 exact⟨rfl,HB1.out⟩
theorem dww_core(B d V x1 x0 t1:Nat)(hB:0<B)(hd:0<d)(h1:V*d+1≤B*B)(h2:B*B<V*d+d+1)(hx1:x1<d)(hx0:x0<B)(hdB:d<B)(ht:t1=(V*x1+x0)/B):t1*d≤x1*B+x0∧x1*B+x0<t1*d+B+d:=by
 obtain⟨l,hl⟩: ∃l,(V*x1+x0)%B=l:=⟨_,rfl⟩
 have hlB:l<B:=by rw[←hl];exact Nat.mod_lt _ hB
 have e:=Nat.div_add_mod (V*x1+x0) B;rw[←ht,hl]at e;have m1:(B*t1+l)*d=(V*x1+x0)*d:=by rw[e]
 have m2:(V*d+1)*x1≤B*B*x1:=Nat.mul_le_mul_right _ h1;have m3:B*B*x1≤(V*d+d)*x1:=Nat.mul_le_mul_right _ (by omega);have m4:x0*d≤x0*B:=Nat.mul_le_mul_left _ (Nat.le_of_lt hdB);have m5:(l+1)*d≤B*d:=Nat.mul_le_mul_right _ hlB;have m6:(x0+1)*(B-d)≤B*(B-d):=Nat.mul_le_mul_right _ hx0;have m7:(x1+1)*d≤d*d:=Nat.mul_le_mul_right _ hx1;obtain⟨f,hf⟩: ∃f,B=d+f:=⟨B-d,by omega⟩
 have hf0:0<f:=by omega
 have hfd:B-d=f:=by omega
 rw[hfd]at m6;constructor
 ·have:B*(t1*d)≤B*(x1*B+x0):=by
   have k1:B*(t1*d)+l*d=V*d*x1+x0*d:=by grind
   have k2:V*d*x1+x1≤B*B*x1:=by grind
   have k3:B*(x1*B+x0)=B*B*x1+x0*B:=by grind
   omega
  exact Nat.le_of_mul_le_mul_left this hB
 ·have:B*(x1*B+x0)<B*(t1*d+B+d):=by
   have k1:B*(t1*d)+l*d=V*d*x1+x0*d:=by grind
   have k2:B*B*x1≤V*d*x1+d*x1:=by grind
   have k3:B*(x1*B+x0)=B*B*x1+x0*B:=by grind
   have k4:B*(t1*d+B+d)=B*(t1*d)+B*B+B*d:=by grind
   have k5:l*d+d≤B*d:=by grind
   have k6:x0*f+f≤B*f:=by grind
   have k7:d*x1+d≤d*d:=by grind
   have k8:x0*B=x0*d+x0*f:=by rw[hf];grind
   have k9:B*B=B*d+B*f:=by conv=>lhs;rhs;rw[hf]
                           grind
   have k10:d*d+d*f=B*d:=by rw[hf];grind
   omega
  exact Nat.lt_of_mul_lt_mul_left this
theorem dww_nums(y s t U x1 x0:Nat)(hst:s+t=64)(hU:y*2^s=U)(hU2:U<18446744073709551616)(hU1:9223372036854775808≤U)(hx1:x1<y)(hx0:x0<18446744073709551616):
 ∃X1 X0 hi lo c q e1 e0 b r0 r1 r:Nat,x1*2^s%18446744073709551616+x0/2^t=X1∧x0*2^s%18446744073709551616=X0∧X1<18446744073709551616∧X0<18446744073709551616∧rec8 U<18446744073709551616∧q<18446744073709551616∧
  rec8 U*X1/18446744073709551616=hi∧rec8 U*X1%18446744073709551616=lo∧(lo+X0+0)/18446744073709551616=c∧c≤1∧(hi+X1+c)%18446744073709551616=q∧U*q/18446744073709551616=e1∧U*q%18446744073709551616=e0∧
  (X0+18446744073709551616-e0-0)%18446744073709551616=r0∧(if X0<e0+0 then 1 else 0)=b∧b≤1∧(X1+18446744073709551616-e1-b)%18446744073709551616=r1∧
  (x1*18446744073709551616+x0)*2^s=q*U+r∧r<18446744073709551616+U∧r=r1*18446744073709551616+r0∧r0<18446744073709551616∧r1≤1:=by
 have hB:18446744073709551616=2^s*2^t:=by rw[←Nat.pow_add,hst]
 have hp:0<2^s:=Nat.pow_pos (by omega);have hx1s:x1*2^s<18446744073709551616:=Nat.lt_of_le_of_lt (Nat.mul_le_mul_right _ (Nat.le_of_lt hx1)) (by rw[hU];exact hU2);have hsp:=L64.shl_split x0 s t hst;have hN:(x1*18446744073709551616+x0)*2^s=(x1*2^s+x0/2^t)*18446744073709551616+x0*2^s%18446744073709551616:=by
  rw[Nat.add_mul,hsp,Nat.add_mul,Nat.mul_right_comm];rw[←hsp];omega
 have hq2:x0/2^t<2^s:=Nat.div_lt_of_lt_mul (by rw[Nat.mul_comm,←hB];exact hx0);have hX1U:x1*2^s+x0/2^t<U:=by
  have:(x1+1)*2^s≤y*2^s:=Nat.mul_le_mul_right _ hx1;rw[Nat.add_mul,hU]at this;omega
 rw[Nat.mod_eq_of_lt hx1s];obtain⟨X1,hX1⟩: ∃X1,x1*2^s+x0/2^t=X1:=⟨_,rfl⟩
 obtain⟨X0,hX0⟩: ∃X0,x0*2^s%18446744073709551616=X0:=⟨_,rfl⟩
 have hX0B:X0<18446744073709551616:=by rw[←hX0];exact Nat.mod_lt _ (by omega)
 rw[hX1,hX0]at hN;rw[hX1]at hX1U⊢;rw[hX0];have hV1:(18446744073709551616*18446744073709551616-1)/U=rec8 U+18446744073709551616:=by
  have:18446744073709551616≤(18446744073709551616*18446744073709551616-1)/U:=by
   rw[Nat.le_div_iff_mul_le (by omega)];omega
  unfold rec8;omega
 have hVd:=Nat.div_add_mod (18446744073709551616*18446744073709551616-1) U;have hVm:=Nat.mod_lt (18446744073709551616*18446744073709551616-1) (show U>0 by omega);rw[hV1,Nat.mul_comm]at hVd;have hrec:rec8 U<18446744073709551616:=by
  have:(18446744073709551616*18446744073709551616-1)/U<36893488147419103232:=by
   refine Nat.div_lt_of_lt_mul ?_;omega
  omega
 generalize rec8 U=m at*;clear hV1 hU hB hx1s hsp hq2 hX1 hX0;have hcore:=dww_core 18446744073709551616 U (m+18446744073709551616) X1 X0 _ (by omega) (by omega) (by omega) (by omega) hX1U hX0B hU2 rfl;obtain⟨P,hP⟩: ∃P,m*X1=P:=⟨_,rfl⟩
 have hq:((m+18446744073709551616)*X1+X0)/18446744073709551616=P/18446744073709551616+X1+(P%18446744073709551616+X0+0)/18446744073709551616:=by
  rw[Nat.add_mul,hP];omega
 rw[hq]at hcore;clear hVd hVm hq;obtain⟨q,hq⟩: ∃q,P/18446744073709551616+X1+(P%18446744073709551616+X0+0)/18446744073709551616=q:=⟨_,rfl⟩
 rw[hq]at hcore;have hqB:q<18446744073709551616:=by
  have h3:q*U<18446744073709551616*U:=by
   have:(X1+1)*18446744073709551616≤U*18446744073709551616:=Nat.mul_le_mul_right _ hX1U;omega
  exact Nat.lt_of_mul_lt_mul_right h3
 obtain⟨Q,hQ⟩: ∃Q,q*U=Q:=⟨_,rfl⟩
 rw[hQ]at hcore;rw[hN];have hQ2:U*q=Q:=by rw[Nat.mul_comm];exact hQ
 refine⟨X1,X0,P/18446744073709551616,P%18446744073709551616,_,q,Q/18446744073709551616,Q%18446744073709551616,_,_,_,X1*18446744073709551616+X0-Q,rfl,rfl,by omega,hX0B,hrec,hqB,by rw[hP],by rw[hP],rfl,by omega,by omega,by rw[hQ2],by rw[hQ2],rfl,rfl,by split<;>omega,rfl,by rw[hQ];omega,by omega,?_,by omega,?_⟩
 ·split<;>omega
 ·split<;>omega
end Go.Proofs.YthlakefgobflnaaGreatDoor.G
