/- WHAT THE REFERENCE's NUMBERS ANSWER, further: natTrim, NatMul, Pow10. CONTRACTS of spec_natShort, spec_natGuess: each as the plain function beside it. (Began as print.sh's text for this seat; the turns are those of wip/tools/split.py.) -/
import Derived.Test.YthlakefgobflnaaGreatDoorBac
import Derived.Test.YthlakefgobflnaaGreatDoorBab
namespace Go.Proofs.YthlakefgobflnaaGreatDoor.Lm
open Go.RowKit Go.Proofs.YthlakefgobflnaaGreatDoorW.PrintWords Go.Proofs.YthlakefgobflnaaGreatDoor.S
set_option linter.unusedVariables false
theorem rd_nat(l:List Int)(i:Nat):rd l (i:Int)=l.getD i 0:=by unfold rd;rw[Int.toNat_natCast]
theorem w64p(i:Nat)(h:i<9223372036854775807):wrap64 (((i+1:Nat):Int)-1)=(i:Int):=by rw[w64 (by omega) (by omega)];omega
theorem w64n'(i:Nat)(h:i<9223372036854775807):wrap64 ((i:Int)-1)=(i:Int)-1:=w64 (by omega) (by omega)
theorem w64n(i:Nat)(h:i<9223372036854775807):wrap64 (i:Int)=(i:Int):=w64 (by omega) (by omega)
theorem w64a(i j:Nat)(h:i+j<9223372036854775807):wrap64 ((i:Int)+(j:Int))=((i+j:Nat):Int):=by rw[w64 (by omega) (by omega)];omega
theorem natTrim_len(n:Nat): ∀l:List Int,l.length=n→Ok l→n<9223372036854775807→Ev (fun k=>spec_natTrim.l0 k l) (lim (val l)):=by
 induction n with
 |zero=>
  intro l hl _ _;obtain rfl:=List.eq_nil_of_length_eq_zero hl;refine Ev.step ?_;simp only[spec_natTrim.l0];refine Ev.neg (by simp) ?_;rw[val,lim_zero];exact Ev.pure _
 |succ n ih=>
  intro l hl hok hn;refine Ev.step ?_;simp only[spec_natTrim.l0];rw[hl,w64p n (by omega),rd_nat];refine Ev.pos (by omega) (Ev.pos (by omega) (Ev.pos (by omega) ?_));have hlt:n<l.length:=by omega
  have e:l.getD n 0=l[n]:=by rw[List.getD_eq_getElem?_getD,List.getElem?_eq_getElem hlt];rfl
  have hsplit:l=l.take n++ [l[n]]:=by rw[←List.take_succ_eq_append_getElem hlt,List.take_of_length_le (by omega)]
  by_cases h0:l.getD n 0=0
  ·refine Ev.pos h0 (Ev.pos (by omega) ?_);rw[Int.toNat_natCast];have hv:val l=val (l.take n):=by
    conv=>lhs;rw[hsplit]
    rw[val_snoc,←e,h0];simp
   rw[hv];exact ih _ (by rw[List.length_take];omega) (fun x hx=>hok x (List.mem_of_mem_take hx)) (by omega)
  ·refine Ev.neg h0 ?_;rw[←lim_val hok (fun x hx=>?_)]
   ·exact Ev.pure _
   ·rw[hsplit,List.getLast?_append,List.getLast?_singleton]at hx;have:l[n]=x:=by simpa using hx
    rw[←this,←e];exact h0
theorem natTrim(l:List Int)(hok:Ok l)(hn:l.length<9223372036854775807):Ev (fun k=>spec_natTrim.f k l) (lim (val l)):=natTrim_len _ l rfl hok hn
theorem getD_zero{l:List Int}(hok:Ok l){m:Nat}(h:val l<1000000000^m): ∀p,m≤p→l.getD p 0=0:=by
 intro p hp;rcases Nat.lt_or_ge p l.length with hl|hl
 ·have h1:=val_split l p;rw[Nat.min_eq_left (by omega),val_drop hl]at h1;have h2:=ok_get hok p;have h3:1000000000^m≤1000000000^p:=Nat.pow_le_pow_right (by omega) hp;rcases Nat.eq_zero_or_pos (l.getD p 0).toNat with h4|h4
  ·omega
  ·have h5:=Nat.mul_le_mul_left (1000000000^p) (show 1≤(l.getD p 0).toNat+1000000000*val (l.drop (p+1)) by omega);omega
 ·rw[List.getD_eq_getElem?_getD,List.getElem?_eq_none hl];rfl
theorem mul_inner(a b i:Nat)(ai:Nat)(ha:ai<1000000000)(L:Nat)(hL:L=(lim b).length)(N:Nat)(hN:N<9223372036854775807)
 (hi:i+L<N) (r:List Int) (la:List Int) (V:Nat)
 (K: ∀(out:List Int) (c:Nat),out.length=N→Ok out→c<1000000000→val out+1000000000^(i+L)*c=V+1000000000^i*(ai*b)→(∀p,i+L≤p→out.getD p 0=0)→
  Ev (fun k=>spec_NatMul.l0 k (lim b) (out.set (i+L) (c:Int)) la (la.length:Int) ((i+1:Nat):Int)) r)
 (d:Nat): ∀(j:Nat) (out:List Int) (c:Nat),j+d=L→out.length=N→Ok out→c<1000000000→val out+1000000000^(i+j)*c=V+1000000000^i*(ai*(b%1000000000^j))→(∀p,i+L≤p→out.getD p 0=0)→
 Ev (fun k=>spec_NatMul.l1 k (lim b) out (i:Int) (ai:Int) (c:Int) la (la.length:Int) (i:Int) (lim b) (L:Int) (j:Int)) r:=by
 have hii:i<9223372036854775807:=by omega
 induction d with
 |zero=>
  intro j out c hj hlen hok hc hv hz;refine Ev.step ?_;simp only[spec_NatMul.l1];refine Ev.neg (by omega) ?_;rw[←hL,w64a i L (by omega),w64s i hii];refine Ev.pos (by omega) (Ev.pos (by omega) ?_);rw[Int.toNat_natCast,show(c:Int)%4294967296=(c:Int) by omega];refine K out c hlen hok hc ?_ hz;obtain rfl:j=L:=by omega
  rw[hv,Nat.mod_eq_of_lt (lt_of_len (by omega))]
 |succ d ih=>
  intro j out c hj hlen hok hc hv hz;refine Ev.step ?_;simp only[spec_NatMul.l1];rw[w64a i j (by omega),rd_nat,rd_lim,Int.toNat_natCast];refine Ev.pos (by omega) (Ev.pos (by omega) (Ev.pos (by omega) (Ev.pos (by omega) (Ev.pos (by omega) ?_))));have hg:=ok_get hok (i+j);obtain⟨o,ho⟩:=Int.eq_ofNat_of_zero_le hg.1;have hset:=val_set (l:=out) (i:=i+j) (by omega) hok;rw[ho,Int.toNat_natCast]at hset;have ho1:o<1000000000:=by omega
  rw[ho];obtain⟨bj,hbj⟩: ∃bj,bj=b/1000000000^j%1000000000:=⟨_,rfl⟩
  have hbj1:bj<1000000000:=by rw[hbj];exact Nat.mod_lt _ (by omega)
  rw[←hbj];have hmod:b%1000000000^(j+1)=b%1000000000^j+1000000000^j*bj:=by rw[hbj];exact Nat.mod_pow_succ
  have hp:ai*bj≤999999999*999999999:=Nat.mul_le_mul (by omega) (by omega);obtain⟨pr,hpr⟩: ∃pr,pr=ai*bj:=⟨_,rfl⟩
  rw[←hpr]at hp;have e1:IntKind.u64.wrap (IntKind.u64.wrap (ai:Int)*IntKind.u64.wrap (bj:Int))=(pr:Int):=by
   rw[wu64 (i:=(ai:Int)) (by omega) (by omega),wu64 (i:=(bj:Int)) (by omega) (by omega),←Int.natCast_mul,←hpr,wu64 (by omega) (by omega)]
  have e2:IntKind.u64.wrap (IntKind.u64.wrap (o:Int)+(pr:Int))=((o+pr:Nat):Int):=by
   rw[wu64 (i:=(o:Int)) (by omega) (by omega),wu64 (by omega) (by omega)];omega
  have e3:IntKind.u64.wrap ((c:Int)+((o+pr:Nat):Int))=((c+(o+pr):Nat):Int):=by rw[wu64 (by omega) (by omega)];omega
  rw[e1,e2,e3];obtain⟨t,ht⟩: ∃t,t=c+(o+pr):=⟨_,rfl⟩
  rw[←ht];have e4:(Int.tmod (t:Int) 1000000000)%4294967296=((t%1000000000:Nat):Int):=by rw[Int.tmod_eq_emod_of_nonneg (by omega)];omega
  have e5:IntKind.u64.wrap (Int.tdiv (t:Int) 1000000000)=((t/1000000000:Nat):Int):=by rw[Int.tdiv_eq_ediv_of_nonneg (by omega),wu64 (by omega) (by omega)];omega
  rw[e4,e5,w64s j (by omega)];refine ih (j+1) _ _ (by omega) (by rw[List.length_set];exact hlen) (ok_set hok _ (by omega) (by omega)) (by omega) ?_ (fun p hp=>?_)
  ·have hs:=hset ((t%1000000000:Nat):Int);rw[Int.toNat_natCast]at hs;have hdm:=Nat.div_add_mod t 1000000000;rw[hmod,show i+(j+1)=i+j+1 by omega,Nat.pow_succ];have hP:1000000000^(i+j)=1000000000^i*1000000000^j:=Nat.pow_add ..;clear ih K e1 e2 e3 e4 e5 hset hz ho hok hlen;generalize 1000000000^(i+j)=P at*;generalize 1000000000^i=PI at*;generalize 1000000000^j=PJ at*;generalize b%PJ=bm at*;generalize t%1000000000=tm at*;generalize t/1000000000=td at*;generalize val (out.set (i+j) (tm:Int))=v2 at*;generalize val out=v1 at*;subst hP;subst ht;subst hpr
   grind
  ·rw[List.getD_eq_getElem?_getD,List.getElem?_set,if_neg (by omega),←List.getD_eq_getElem?_getD];exact hz p hp
theorem mul_outer(a b:Nat)(L M N:Nat)(hL:L=(lim b).length)(hM:M=(lim a).length)(hN:N=M+L)(hN1:N<9223372036854775806)(d:Nat): ∀(i:Nat) (out:List Int),i+d=M→out.length=N→Ok out→val out=(a%1000000000^i)*b→
 Ev (fun k=>spec_NatMul.l0 k (lim b) out (lim a) ((lim a).length:Int) (i:Int)) (lim (a*b)):=by
 induction d with
 |zero=>
  intro i out hi hlen hok hv;refine Ev.step ?_;simp only[spec_NatMul.l0];refine Ev.neg (by omega) ?_;have e:a%1000000000^i=a:=Nat.mod_eq_of_lt (lt_of_len (by omega));rw[e]at hv;rw[←hv];exact Ev.bind (natTrim out hok (by omega)) (Ev.pure _)
 |succ d ih=>
  intro i out hi hlen hok hv;refine Ev.step ?_;simp only[spec_NatMul.l0];refine Ev.pos (by omega) (Ev.pos (by omega) (Ev.pos (by omega) ?_));rw[rd_lim,←hL];have hb:b<1000000000^L:=lt_of_len (by omega);have hai:a/1000000000^i%1000000000<1000000000:=Nat.mod_lt _ (by omega);have hmod:a%1000000000^(i+1)=a%1000000000^i+1000000000^i*(a/1000000000^i%1000000000):=Nat.mod_pow_succ;have hval:val out<1000000000^(i+L):=by
   rw[hv,Nat.pow_add];rcases Nat.eq_zero_or_pos b with h0|h0
   ·rw[h0,Nat.mul_zero];exact Nat.mul_pos (Nat.pow_pos (by omega)) (Nat.pow_pos (by omega))
   ·exact Nat.lt_of_lt_of_le (Nat.mul_lt_mul_of_pos_right (Nat.mod_lt _ (Nat.pow_pos (by omega))) h0) (Nat.mul_le_mul_left _ (by omega))
  refine mul_inner a b i _ hai L hL N (by omega) (by omega) _ (lim a) (val out) ?_ L 0 out 0 (by omega) hlen hok (by omega) (by simp[Nat.mod_one]) (getD_zero hok hval);intro out2 c hlen2 hok2 hc hv2 hz2;refine ih (i+1) _ (by omega) (by rw[List.length_set];exact hlen2) (ok_set hok2 _ (by omega) (by omega)) ?_;have hs:=val_set (l:=out2) (i:=i+L) (by omega) hok2 (c:Int);rw[hz2 (i+L) (Nat.le_refl _),Int.toNat_natCast,Int.toNat_zero,Nat.mul_zero,Nat.add_zero]at hs;rw[hs,hv2,hv,hmod,Nat.add_mul,Nat.mul_assoc]
theorem natMul(a b:Nat)(h:(lim a).length+(lim b).length≤70368744177664):Ev (fun k=>spec_NatMul.f k (lim a) (lim b)) (lim (a*b)):=by
 unfold spec_NatMul.f;rw[w64a _ _ (by omega),Int.toNat_natCast];refine Ev.pos (by omega) (Ev.pos h ?_);refine mul_outer a b _ _ _ rfl rfl rfl (by omega) (lim a).length 0 _ (by omega) (by rw[List.length_replicate]) (ok_zeros _) ?_;rw[val_zeros,Nat.pow_zero,Nat.mod_one,Nat.zero_mul]
theorem pow10_loop(n:Nat)(hn:n≤1000000)(out:List Int)(hout:out=List.replicate (n/9+1) 0)(d:Nat): ∀i:Nat,i+d=n%9→Ev (fun k=>spec_Pow10.l0 k (n:Int) out ((10^i:Nat):Int) (i:Int)) (lim (10^n)):=by
 induction d with
 |zero=>
  intro i hi;refine Ev.step ?_;simp only[spec_Pow10.l0];have e0:Int.tmod (n:Int) 9=((n%9:Nat):Int):=by rw[Int.tmod_eq_emod_of_nonneg (by omega)];omega
  have e1:Int.tdiv (n:Int) 9=((n/9:Nat):Int):=by rw[Int.tdiv_eq_ediv_of_nonneg (by omega)];omega
  rw[e0,e1,w64n _ (by omega),Int.toNat_natCast];have hl:out.length=n/9+1:=by rw[hout,List.length_replicate]
  refine Ev.neg (by omega) (Ev.pos (by omega) (Ev.pos (by omega) ?_));have hlt:10^i<1000000000:=by
   have:10^i≤10^8:=Nat.pow_le_pow_right (by omega) (by omega);omega
  have hpos:0<10^i:=Nat.pow_pos (by omega);have hok:Ok out:=by rw[hout];exact ok_zeros _
  have hs:=val_set (l:=out) (i:=n/9) (by omega) hok ((10^i:Nat):Int);have hz:out.getD (n/9) 0=0:=getD_zero hok (m:=0) (by rw[hout,val_zeros];exact Nat.one_pos) _ (Nat.zero_le _);rw[hz,Int.toNat_natCast,Int.toNat_zero,Nat.mul_zero,Nat.add_zero,show val out=0 by rw[hout,val_zeros],Nat.zero_add]at hs;have hp:1000000000^(n/9)*10^i=10^n:=by
   rw[show(1000000000:Nat)=10^9 by rfl,←Nat.pow_mul,←Nat.pow_add]
   congr 1;omega
  have hf:out.set (n/9) ((10^i:Nat):Int)=lim (10^n):=by
   rw[←hp,←hs];refine lim_val (ok_set hok _ (by omega) (by omega)) (fun x hx=>?_);have hx':(out.set (n/9) ((10^i:Nat):Int))[n/9]?=some x:=by
    rw[←hx,List.getLast?_eq_getElem?,List.length_set,hl];rfl
   rw[List.getElem?_set,if_pos rfl,if_pos (by omega)]at hx';have:=Option.some.inj hx';omega
  rw[hf];exact Ev.pure _
 |succ d ih=>
  intro i hi;refine Ev.step ?_;simp only[spec_Pow10.l0];have e0:Int.tmod (n:Int) 9=((n%9:Nat):Int):=by rw[Int.tmod_eq_emod_of_nonneg (by omega)];omega
  rw[e0];have hlt:10^i≤10^8:=Nat.pow_le_pow_right (by omega) (by omega);have e2:(((10^i:Nat):Int)*10)%4294967296=((10^(i+1):Nat):Int):=by rw[Nat.pow_succ];omega
  rw[e2,w64s i (by omega)];exact Ev.pos (by omega) (ih (i+1) (by omega))
theorem pow10(n:Nat)(hn:n≤1000000):Ev (fun k=>spec_Pow10.f k (n:Int)) (lim (10^n)):=by
 unfold spec_Pow10.f;have e1:Int.tdiv (n:Int) 9=((n/9:Nat):Int):=by rw[Int.tdiv_eq_ediv_of_nonneg (by omega)];omega
 rw[e1,w64n _ (by omega),w64s _ (by omega),Int.toNat_natCast];exact Ev.neg (by omega) (Ev.pos (by omega) (Ev.pos (by omega) (pow10_loop n hn _ rfl (n%9) 0 (by omega))))
end Go.Proofs.YthlakefgobflnaaGreatDoor.Lm
namespace Go.Proofs.YthlakefgobflnaaGreatDoor.S
open Go.RowKit Go.Proofs.YthlakefgobflnaaGreatDoorW.PrintWords Go.Proofs.YthlakefgobflnaaGreatDoorW.PrintLast Go.Proofs.YthlakefgobflnaaGreatDoorW.PrintMore
attribute [local go_sem] max2_int min2_int max_two min_two max_three min_three max_four min_four   -- for this text's walks alone
set_option linter.unusedVariables false
set_option linter.unusedSimpArgs false
def spec_natShort.l0:Nat→List Int→Int→List Int→Int→Int→Option (List Int×Int)
 |0,_,_,_,_,_=>none
 |k+1,x0,x1,x6,x7,x8=>if x8≥0 then(if 0≤x8 then(if x8<(x0.length:Int)then(if(IntKind.u64.wrap (x1))=0 then(none)else(if x8<(x6.length:Int)then(spec_natShort.l0 k x0 x1 (x6.set (x8:Int).toNat ((IntKind.u64.wrap (Int.tdiv (IntKind.u64.wrap ((IntKind.u64.wrap (x7*1000000000))+(IntKind.u64.wrap (rd x0 x8)))) (IntKind.u64.wrap (x1))))%4294967296)) (Int.tmod (IntKind.u64.wrap ((IntKind.u64.wrap (x7*1000000000))+(IntKind.u64.wrap (rd x0 x8)))) (IntKind.u64.wrap (x1))) (wrap64 (x8-1)))else(none)))else(none))else(none))else((spec_natTrim.f k x6).bind fun t136=>(some (t136,(x7)%4294967296)))
def spec_natShort.f(k:Nat)(l0:List Int)(a1:Int):Option (List Int×Int):=if 0≤(l0.length:Int)then(if((l0.length:Int):Int).toNat≤70368744177664 then(spec_natShort.l0 k l0 a1 (List.replicate ((l0.length:Int):Int).toNat 0) 0 (wrap64 ((l0.length:Int)-1)))else(none))else(none)
set_option maxHeartbeats 8000000 in
set_option maxRecDepth 100000 in
theorem spec_natShort.calls(k:Nat)(A0:Option Addr)(c0:Nat)(l0:List Int)(a1:Int)(r1:List Int)(r2:Int)(w:World)(hr0:Kd.C (Kd.int .u32) w A0 l0.length l0)(hc0:l0.length≤c0)(h:spec_natShort.f k l0 a1=some (r1,r2)):
 Calls Tryz.prog 31 #[.slice A0 l0.length c0,.int .u32 a1] w fun e w'=>∃v0_:Value,e= .returned (.tuple #[v0_,.int .u32 r2])∧Kd.V (Kd.int .u32) 40 w' w.heap.size (fun k_=>(w.heap.size≤k_)) v0_ r1∧Below w.heap.size w w':=by
 have HR0:=ak hr0;have HC0:=ak hc0;clear hr0 hc0;have HB:=ak (Below.refl w.heap.size w);have H:(if 0≤(l0.length:Int)then(if((l0.length:Int):Int).toNat≤70368744177664 then(spec_natShort.l0 k l0 a1 (List.replicate ((l0.length:Int):Int).toNat 0) 0 (wrap64 ((l0.length:Int)-1)))else(none))else(none))=some (r1,r2):=h;clear h;replace H:=gd H;obtain⟨c3,H⟩:=H;have c3b0:=eq_true c3;have c3b1:decide (0≤(l0.length:Int))=true:=decide_eq_true c3;clear c3;replace H:=gd H;obtain⟨c4,H⟩:=H;have c4b0:=eq_true c4;have c4b1:decide (((l0.length:Int):Int).toNat≤70368744177664)=true:=decide_eq_true c4;clear c4;obtain⟨y131,hy131⟩: ∃y_:List Int,y_=(List.replicate ((l0.length:Int):Int).toNat 0):=⟨_,rfl⟩
 replace H:(spec_natShort.l0 k l0 a1 y131 0 (wrap64 ((l0.length:Int)-1)))=some (r1,r2):=zh hy131 H;have Ny131:=ak hy131;clear hy131;have H':=ak H;clear H
 go_enter Tryz.func31,Tryz.ntmps31
 go_wp2_with (first|((with_reducible refine gate_dst (N:=11) rfl ?_);refine Kd.R_make (Kd.int .u32) _ 40 rfl (N:=11) rfl 24 _ _ rfl (l0.length:Int) rfl rfl Tryz.underlying24 (.int .u32 0) 4 info40 rfl (by decide) (by omega) 0 (ok:=fun _=>True) (okp:=fun _=>True) rfl (fun _ hk=>hk) trivial (of_decide_eq_true za) (Nat.le_trans (Nat.mul_le_mul_right _ (of_decide_eq_true za:(l0.length:Int).toNat≤70368744177664)) (by omega)) (Below.refl _ _) (Nat.le_refl _) ?_;intro v132 w5 ho6 hb hg_ hnew_;clear hg_ hnew_;(first|rw[←Ny131.out]at ho6|(simp only[Int.reduceToNat]at ho6;rw[←Ny131.out]at ho6));have HO133:=ak (Kd.R_lower (Kd.R_newM (M:=fun k_=>(w.heap.size≤k_)) ho6 (below_size (bw HB.out)) (fun k_ h_=>h_)) (below_size (bw HB.out)));replace HB:=ak (below_step (bw HB.out) hb);clear hb ho6))
 go_loopg [7,8] k (fun kq v7 v8 w'=>∃(x6_1:List Int) (x7_1:Int) (x8_1:Int),v7= .int .u64 x7_1∧v8= .int .i64 x8_1∧Aside0 (spec_natShort.l0 kq l0 a1 x6_1 x7_1 x8_1=some (r1,r2))∧Aside0 (kq≤k)∧Aside0 (Kd.R (Kd.int .u32) 40 w' w.heap.size (fun k_=>(w.heap.size≤k_)) v132 x6_1)∧Aside0 (Below w.heap.size w w'))
 case atStart=>exact⟨(y131),(0),(wrap64 ((l0.length:Int)-1)),zr,zr,H',⟨Nat.le_refl _⟩,⟨by(with_reducible repeat(first|apply Kd.R_alloc|apply Kd.R_drewN|apply Kd.R_drew));exact Kd.R_mono HO133.out (fun _ hk=>hk.1)⟩,⟨bw HB.out⟩⟩
 case round=>
  clear H';try clear c3b0
  try clear c3b1
  try clear c4b0
  try clear c4b1
  obtain⟨x6_1,x7_1,x8_1,rfl,rfl,HA,HK1,HO_6,HB⟩:=hrel;cases gk with
  |zero=>exact absurd HA.out (by simp[spec_natShort.l0])
  |succ k1=>
   have H:=HA.out;clear HA;simp only[spec_natShort.l0]at H;by_cases c7:x8_1≥0
   ·rw[if_pos c7]at H;have c7b0:decide (0≤x8_1)=true:=decide_eq_true c7;clear c7;replace H:=gdt H;obtain⟨c8b0,H⟩:=H;replace H:=gdt H;obtain⟨c9b0,H⟩:=H;by_cases c10:(IntKind.u64.wrap (a1))=0
    ·rw[if_pos c10]at H;exact absurd H (by simp)
    ·rw[if_neg c10]at H;have c10b0:((IntKind.u64.wrap (a1))==0)=false:=beq_eq_false_iff_ne.mpr c10;have c10b1:((IntKind.u64.wrap (a1)) != 0)=true:=bne_iff_ne.mpr c10;replace H:=gdt H;obtain⟨c11b0,H⟩:=H;obtain⟨y135,hy135⟩: ∃y_:List Int,y_=(x6_1.set (x8_1:Int).toNat ((IntKind.u64.wrap (Int.tdiv (IntKind.u64.wrap ((IntKind.u64.wrap (x7_1*1000000000))+(IntKind.u64.wrap (rd l0 x8_1)))) (IntKind.u64.wrap (a1))))%4294967296)):=⟨_,rfl⟩
     replace H:(spec_natShort.l0 k1 l0 a1 y135 (Int.tmod (IntKind.u64.wrap ((IntKind.u64.wrap (x7_1*1000000000))+(IntKind.u64.wrap (rd l0 x8_1)))) (IntKind.u64.wrap (a1))) (wrap64 (x8_1-1)))=some (r1,r2):=zh hy135 H;have Ny135:=ak hy135;clear hy135;have H':=ak H;clear H;have p134:0≤(x8_1:Int):=of_decide_eq_true za;have q134:x8_1<(l0.length:Int):=of_decide_eq_true za;obtain⟨ad134,e134,hx134_0⟩:=Kd.at_int HR0.out x8_1 p134 q134;cases e134;replace hx134_0:=(HB.out.cell (World.block_lt_of_cell? w _ hx134_0)).trans hx134_0;replace p134:=eq_true p134;replace q134:=eq_true q134;have p12:0≤(x8_1:Int):=of_decide_eq_true za;have q12:(x8_1:Int)<((x6_1.length:Int):Int):=of_decide_eq_true za;obtain⟨go12,co12,eo12,gb12,gl12,cl12,HG12⟩:=Kd.R_form HO_6.out (by omega)
     (first|cases eo12|(injection eo12 with ea_ en_ ec_;(first|subst ea_|(injection ea_ with ea_;subst ea_));subst ec_;clear en_))
     have GB12:=ak gb12;have GG12:=ak HG12;clear gb12 gl12 HG12;obtain⟨hx12_0,hf12_0⟩:=Kd.R_celln 0 HO_6.out (x8_1:Int) p12 q12;replace p12:=eq_true p12;replace q12:=eq_true q12;have HP13:=Kd.R_putg HO_6.out (x8_1:Int) ((IntKind.u64.wrap (Int.tdiv (IntKind.u64.wrap ((IntKind.u64.wrap (x7_1*1000000000))+(IntKind.u64.wrap (rd l0 x8_1)))) (IntKind.u64.wrap (a1))))%4294967296)
     go_wp2_with (first|((with_reducible refine gate_store (t:=40) (p:=34) rfl ?_);refine store_event (t:=40) (p:=34) (v:=?vo_w14) (w1:=(wr.setCell ⟨go12,(x8_1:Int).toNat,none⟩ (.int .u32 ((IntKind.u64.wrap (Int.tdiv (IntKind.u64.wrap ((IntKind.u64.wrap (x7_1*1000000000))+(IntKind.u64.wrap (rd l0 x8_1)))) (IntKind.u64.wrap (a1))))%4294967296)))) ?hg ?ho ?hn ?hr ?_;(case ho=>rfl);(case hg=>rfl);(case hn=>rfl);(case hr=>first|(go_simp;done)|(go_simp;rfl));intro w14 hw;have hg:wr.grownBy w14 (some go12):=(by rw[hw];exact HP13.2);have hp_:Kd.R (Kd.int .u32) 40 w14 w.heap.size (fun k_=>(w.heap.size≤k_)) (.slice (some ⟨go12,0,none⟩) x6_1.length co12) y135:=(by rw[hw,Ny135.out];exact HP13.1);clear HP13;replace HO_6:=ak (hp_);replace HB:=ak ((by rw[hw];exact below_set (HB.out) GB12.out:Below w.heap.size w w14));clear hg hw hp_))
     go_roundg k1
     case measure=>have:=HK1.out;omega
     case rel=>exact⟨(y135),(Int.tmod (IntKind.u64.wrap ((IntKind.u64.wrap (x7_1*1000000000))+(IntKind.u64.wrap (rd l0 x8_1)))) (IntKind.u64.wrap (a1))),(wrap64 (x8_1-1)),zr,zr,H',⟨by have:=HK1.out;omega⟩,⟨kr HO_6.out⟩,⟨bw HB.out⟩⟩
   ·rw[if_neg c7]at H;have c7b0:decide (0≤x8_1)=false:=decide_eq_false c7;clear c7;replace H:=Option.bind_eq_some_iff.mp H;obtain⟨t136,A150,H⟩:=H;replace H:(some (t136,(x7_1)%4294967296))=some (r1,r2):=H;have A15:=ak A150;clear A150;simp only[Option.some.injEq,Prod.mk.injEq]at H;obtain⟨rfl,rfl⟩:=H;obtain⟨Ao16,co16,eo16⟩:=Kd.R_slice HO_6.out;subst eo16
    go_wp2_with (first|((with_reducible refine gate_callee (f:=32) rfl ?_);refine goesL_ (some 40) rfl rfl Tryz.func32 (by kernel_rfl) rfl #[.slice Ao16 x6_1.length co16] rfl zm ?_;(with_reducible refine(spec_natTrim.calls k1 (fun k_=>some k_=(.slice Ao16 x6_1.length co16:Value).ownBlock) _ _ x6_1 t136 _ ?side1 A15.out).mono ?_);(case side1=>exact Kd.R_V (Kd.R_tight rfl (HO_6.out)));rintro e w17 ⟨v137,rfl,ho0,hb⟩;refine⟨_,rfl,?_⟩;have HO138:=ak (Kd.V_lower (Kd.V_mono (ok':=fun k_=>(w.heap.size≤k_)) ho0 (fun k_ hk_=>Or.elim hk_ (fun hs_=>((HO_6.out).1 k_ hs_.symm)) (fun hn_=>(Nat.le_trans (below_size (bw HB.out)) hn_)))) (below_size (bw HB.out)));replace HO_6:=ak (Kd.R_below (kr HO_6.out) hb);replace HB:=ak (below_step (bw HB.out) hb);(try clear hb);(try clear hb2);(try clear hk);(try clear hi);(try clear ho0)))
    go_ret2
    exact⟨_,by first|rfl|(simp[errW_none,errW_some]<;>rfl)|(simp[*,errW_none,errW_some]<;>rfl),kv HO138.out,bw HB.out⟩
def spec_natGuess.f(l0:List Int)(l1:List Int):Option (Int):=if(l0.length:Int)<(l1.length:Int)then(some 0)else(if 0≤(wrap64 ((l1.length:Int)-1))then(if(wrap64 ((l1.length:Int)-1))<(l0.length:Int)then(if(l0.length:Int)>(l1.length:Int)then(if 0≤(l1.length:Int)then(if(l1.length:Int)<(l0.length:Int)then(if(wrap64 ((l1.length:Int)-1))<(l1.length:Int)then(if(IntKind.u64.wrap (rd l1 (wrap64 ((l1.length:Int)-1))))=0 then(none)else(some (mn (IntKind.u64.wrap (Int.tdiv (IntKind.u64.wrap ((IntKind.u64.wrap (rd l0 (wrap64 ((l1.length:Int)-1))))+(IntKind.u64.wrap ((IntKind.u64.wrap (rd l0 (l1.length:Int)))*1000000000)))) (IntKind.u64.wrap (rd l1 (wrap64 ((l1.length:Int)-1)))))) 999999999)))else(none))else(none))else(none))else(if(wrap64 ((l1.length:Int)-1))<(l1.length:Int)then(if(IntKind.u64.wrap (rd l1 (wrap64 ((l1.length:Int)-1))))=0 then(none)else(some (mn (IntKind.u64.wrap (Int.tdiv (IntKind.u64.wrap (rd l0 (wrap64 ((l1.length:Int)-1)))) (IntKind.u64.wrap (rd l1 (wrap64 ((l1.length:Int)-1)))))) 999999999)))else(none)))else(none))else(none))
set_option maxHeartbeats 8000000 in
set_option maxRecDepth 100000 in
theorem spec_natGuess.calls(A0:Option Addr)(c0:Nat)(l0:List Int)(A1:Option Addr)(c1:Nat)(l1:List Int)(r:Int)(w:World)(hr0:Kd.C (Kd.int .u32) w A0 l0.length l0)(hc0:l0.length≤c0)(hr1:Kd.C (Kd.int .u32) w A1 l1.length l1)(hc1:l1.length≤c1)(h:spec_natGuess.f l0 l1=some r):
 Calls Tryz.prog 33 #[.slice A0 l0.length c0,.slice A1 l1.length c1] w fun e w'=>e= .returned (.int .u64 r)∧Below w.heap.size w w':=by
 have HR0:=ak hr0;have HC0:=ak hc0;clear hr0 hc0;have HR1:=ak hr1;have HC1:=ak hc1;clear hr1 hc1;have HB:=ak (Below.refl w.heap.size w);have H:(if(l0.length:Int)<(l1.length:Int)then(some 0)else(if 0≤(wrap64 ((l1.length:Int)-1))then(if(wrap64 ((l1.length:Int)-1))<(l0.length:Int)then(if(l0.length:Int)>(l1.length:Int)then(if 0≤(l1.length:Int)then(if(l1.length:Int)<(l0.length:Int)then(if(wrap64 ((l1.length:Int)-1))<(l1.length:Int)then(if(IntKind.u64.wrap (rd l1 (wrap64 ((l1.length:Int)-1))))=0 then(none)else(some (mn (IntKind.u64.wrap (Int.tdiv (IntKind.u64.wrap ((IntKind.u64.wrap (rd l0 (wrap64 ((l1.length:Int)-1))))+(IntKind.u64.wrap ((IntKind.u64.wrap (rd l0 (l1.length:Int)))*1000000000)))) (IntKind.u64.wrap (rd l1 (wrap64 ((l1.length:Int)-1)))))) 999999999)))else(none))else(none))else(none))else(if(wrap64 ((l1.length:Int)-1))<(l1.length:Int)then(if(IntKind.u64.wrap (rd l1 (wrap64 ((l1.length:Int)-1))))=0 then(none)else(some (mn (IntKind.u64.wrap (Int.tdiv (IntKind.u64.wrap (rd l0 (wrap64 ((l1.length:Int)-1)))) (IntKind.u64.wrap (rd l1 (wrap64 ((l1.length:Int)-1)))))) 999999999)))else(none)))else(none))else(none)))=some r:=h;clear h;by_cases c3:(l0.length:Int)<(l1.length:Int)
 ·rw[if_pos c3]at H;have c3b0:decide ((l0.length:Int)<(l1.length:Int))=true:=decide_eq_true c3;have c3b1:decide (l0.length<l1.length)=true:=decide_eq_true (Int.ofNat_lt.mp c3);clear c3;obtain rfl:=Option.some.inj H
  go_enter Tryz.func33,Tryz.ntmps33
  go_wp2
  go_ret
  exact⟨by first|rfl|(simp[errW_none,errW_some]<;>rfl)|(simp[*,errW_none,errW_some]<;>rfl),bw HB.out⟩
 ·rw[if_neg c3]at H;have c3b0:decide ((l0.length:Int)<(l1.length:Int))=false:=decide_eq_false c3;have c3b1:decide (l0.length<l1.length)=false:=decide_eq_false (fun h=>c3 (Int.ofNat_lt.mpr h));clear c3;obtain⟨ji4,hji4⟩: ∃j_:Int,(wrap64 ((l1.length:Int)-1))=j_:=⟨_,rfl⟩
  replace H:(if 0≤(ji4)then(if(ji4)<(l0.length:Int)then(if(l0.length:Int)>(l1.length:Int)then(if 0≤(l1.length:Int)then(if(l1.length:Int)<(l0.length:Int)then(if(ji4)<(l1.length:Int)then(if(IntKind.u64.wrap (rd l1 (ji4)))=0 then(none)else(some (mn (IntKind.u64.wrap (Int.tdiv (IntKind.u64.wrap ((IntKind.u64.wrap (rd l0 (ji4)))+(IntKind.u64.wrap ((IntKind.u64.wrap (rd l0 (l1.length:Int)))*1000000000)))) (IntKind.u64.wrap (rd l1 (ji4))))) 999999999)))else(none))else(none))else(none))else(if(ji4)<(l1.length:Int)then(if(IntKind.u64.wrap (rd l1 (ji4)))=0 then(none)else(some (mn (IntKind.u64.wrap (Int.tdiv (IntKind.u64.wrap (rd l0 (ji4))) (IntKind.u64.wrap (rd l1 (ji4))))) 999999999)))else(none)))else(none))else(none))=some r:=by first|(rw[hji4]at H;exact H)|(simp only[hji4]at H⊢;exact H)
  have hji4w:(IntKind.i64.wrap ((l1.length:Int)-1))=ji4:=(i64_w _).trans hji4;replace H:=gdt H;obtain⟨c5b0,H⟩:=H;replace H:=gdt H;obtain⟨c6b0,H⟩:=H;by_cases c7:(l0.length:Int)>(l1.length:Int)
  ·rw[if_pos c7]at H;have c7b0:decide ((l1.length:Int)<(l0.length:Int))=true:=decide_eq_true c7;have c7b1:decide (l1.length<l0.length)=true:=decide_eq_true (Int.ofNat_lt.mp c7);clear c7;replace H:=gd H;obtain⟨c8,H⟩:=H;have c8b0:decide (0≤(l1.length:Int))=true:=decide_eq_true c8;have c8b1:decide (0≤l1.length)=true:=decide_eq_true (by omega);clear c8;replace H:=gd H;obtain⟨c9,H⟩:=H;have c9b0:decide ((l1.length:Int)<(l0.length:Int))=true:=decide_eq_true c9;have c9b1:decide (l1.length<l0.length)=true:=decide_eq_true (Int.ofNat_lt.mp c9);clear c9;replace H:=gdt H;obtain⟨c10b0,H⟩:=H;by_cases c11:(IntKind.u64.wrap (rd l1 (ji4)))=0
   ·rw[if_pos c11]at H;exact absurd H (by simp)
   ·rw[if_neg c11]at H;have c11b0:((IntKind.u64.wrap (rd l1 (ji4)))==0)=false:=beq_eq_false_iff_ne.mpr c11;have c11b1:((IntKind.u64.wrap (rd l1 (ji4))) != 0)=true:=bne_iff_ne.mpr c11;obtain⟨ji12,hji12⟩: ∃j_:Int,(mn (IntKind.u64.wrap (Int.tdiv (IntKind.u64.wrap ((IntKind.u64.wrap (rd l0 (ji4)))+(IntKind.u64.wrap ((IntKind.u64.wrap (rd l0 (l1.length:Int)))*1000000000)))) (IntKind.u64.wrap (rd l1 (ji4))))) 999999999)=j_:=⟨_,rfl⟩
    replace H:(some ji12)=some r:=by first|(rw[hji12]at H;exact H)|(simp only[hji12]at H⊢;exact H)
    have hji12_:(if 999999999<(IntKind.u64.wrap (Int.tdiv (IntKind.u64.wrap ((IntKind.u64.wrap (rd l0 (ji4)))+(IntKind.u64.wrap ((IntKind.u64.wrap (rd l0 (l1.length:Int)))*1000000000)))) (IntKind.u64.wrap (rd l1 (ji4)))))then 999999999 else(IntKind.u64.wrap (Int.tdiv (IntKind.u64.wrap ((IntKind.u64.wrap (rd l0 (ji4)))+(IntKind.u64.wrap ((IntKind.u64.wrap (rd l0 (l1.length:Int)))*1000000000)))) (IntKind.u64.wrap (rd l1 (ji4))))))=ji12:=hji12;obtain rfl:=Option.some.inj H;have p139:0≤((ji4):Int):=of_decide_eq_true za;have q139:(ji4)<(l0.length:Int):=of_decide_eq_true za;obtain⟨ad139,e139,hx139_0⟩:=Kd.at_int HR0.out (ji4) p139 q139;cases e139;replace p139:=eq_true p139;replace q139:=eq_true q139;have p140:0≤((l1.length:Int):Int):=of_decide_eq_true za;have q140:(l1.length:Int)<(l0.length:Int):=of_decide_eq_true za;obtain⟨ad140,e140,hx140_0⟩:=Kd.at_int HR0.out (l1.length:Int) p140 q140;obtain rfl:ad139=ad140:=(by injection e140)
    (try simp only[Go.IntWalk.toNatUp]at hx140_0)
    replace p140:=eq_true p140;replace q140:=eq_true q140;have p141:0≤((ji4):Int):=of_decide_eq_true za;have q141:(ji4)<(l1.length:Int):=of_decide_eq_true za;obtain⟨ad141,e141,hx141_0⟩:=Kd.at_int HR1.out (ji4) p141 q141;cases e141;replace p141:=eq_true p141;replace q141:=eq_true q141
    go_enter Tryz.func33,Tryz.ntmps33
    go_wp2
    go_ret
    exact⟨by first|rfl|(simp[errW_none,errW_some]<;>rfl)|(simp only[←hji4,←hji12];first|rfl|(simp[errW_none,errW_some]<;>rfl))|(simp[*,errW_none,errW_some]<;>rfl),bw HB.out⟩
  ·rw[if_neg c7]at H;have c7b0:decide ((l1.length:Int)<(l0.length:Int))=false:=decide_eq_false c7;have c7b1:decide (l1.length<l0.length)=false:=decide_eq_false (fun h=>c7 (Int.ofNat_lt.mpr h));clear c7;replace H:=gdt H;obtain⟨c13b0,H⟩:=H;by_cases c14:(IntKind.u64.wrap (rd l1 (ji4)))=0
   ·rw[if_pos c14]at H;exact absurd H (by simp)
   ·rw[if_neg c14]at H;have c14b0:((IntKind.u64.wrap (rd l1 (ji4)))==0)=false:=beq_eq_false_iff_ne.mpr c14;have c14b1:((IntKind.u64.wrap (rd l1 (ji4))) != 0)=true:=bne_iff_ne.mpr c14;obtain⟨ji15,hji15⟩: ∃j_:Int,(mn (IntKind.u64.wrap (Int.tdiv (IntKind.u64.wrap (rd l0 (ji4))) (IntKind.u64.wrap (rd l1 (ji4))))) 999999999)=j_:=⟨_,rfl⟩
    replace H:(some ji15)=some r:=by first|(rw[hji15]at H;exact H)|(simp only[hji15]at H⊢;exact H)
    have hji15_:(if 999999999<(IntKind.u64.wrap (Int.tdiv (IntKind.u64.wrap (rd l0 (ji4))) (IntKind.u64.wrap (rd l1 (ji4)))))then 999999999 else(IntKind.u64.wrap (Int.tdiv (IntKind.u64.wrap (rd l0 (ji4))) (IntKind.u64.wrap (rd l1 (ji4))))))=ji15:=hji15;obtain rfl:=Option.some.inj H;have p139:0≤((ji4):Int):=of_decide_eq_true za;have q139:(ji4)<(l0.length:Int):=of_decide_eq_true za;obtain⟨ad139,e139,hx139_0⟩:=Kd.at_int HR0.out (ji4) p139 q139;cases e139;replace p139:=eq_true p139;replace q139:=eq_true q139;have p142:0≤((ji4):Int):=of_decide_eq_true za;have q142:(ji4)<(l1.length:Int):=of_decide_eq_true za;obtain⟨ad142,e142,hx142_0⟩:=Kd.at_int HR1.out (ji4) p142 q142;cases e142;replace p142:=eq_true p142;replace q142:=eq_true q142
    go_enter Tryz.func33,Tryz.ntmps33
    go_wp2
    go_ret
    exact⟨by first|rfl|(simp[errW_none,errW_some]<;>rfl)|(simp only[←hji4,←hji15];first|rfl|(simp[errW_none,errW_some]<;>rfl))|(simp[*,errW_none,errW_some]<;>rfl),bw HB.out⟩
end Go.Proofs.YthlakefgobflnaaGreatDoor.S
